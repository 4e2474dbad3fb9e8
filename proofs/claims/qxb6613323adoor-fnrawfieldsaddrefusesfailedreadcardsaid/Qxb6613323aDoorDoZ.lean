/-
  Add (17) over a reader that fails; ZZaddFailing (15).
-/
import Derived.Test.Qxb6613323aDoorDoL
import Derived.Test.Qxb6613323aDoorDoM
import Derived.Test.Qxb6613323aDoorDoX
import Derived.Test.Qxb6613323aDoorDoY
namespace Go.Proofs.Qxb6613323aDoor.Do
open Go.ChangeShapes Go.WideShapes Go.ChangeAt Go.RowKit

set_option maxHeartbeats 4000000 in
set_option maxRecDepth 100000 in
theorem addF17 {N sb : Nat} {w : World} {S rest : List Int} {g : Option Nat} {fs rv : Value} {n : Nat} {xs : List Value} {xA : Addr} (h : AD N w sb S g fs n xs) (s : ByteArray) (K : Nat → Prop) (hq4 : ∀ W, (binOp .neq 34 (.iface 73 (.pointer (some xA))) .nilIface).run Tryd.prog W = .ok (.bool true) W)
    (hlim : S.length + s.size + rest.length ≤ 1048576) (hK : ∀ k, K k → k < w.heap.size ∧ k ≠ sb ∧ g ≠ some k ∧ fs.ownBlock ≠ some k)
    (hrf : ∀ W g1, Sk W sb (S ++ bl s) fs g1 → (g1 = g ∨ ∃ k, g1 = some k ∧ w.heap.size ≤ k) → Mv sb g w W → Calls Tryd.prog 25 #[.pointer (some ⟨sb, 0, none⟩), rv] W fun e w' => e = .returned (.tuple #[.int .i64 rest.length, .iface 73 (.pointer (some xA))]) ∧
      ∃ g', Sk w' sb (S ++ bl s ++ rest) fs g' ∧ (g' = g1 ∨ ∃ k, g' = some k ∧ W.heap.size ≤ k) ∧ Kp (fun k => K k ∨ fs.ownBlock = some k) W w') :
    Calls Tryd.prog 17 #[.pointer (some ⟨sb, 0, none⟩), .string s, rv] w fun e w' => e = .returned (.iface 73 (.pointer (some xA))) ∧ ∃ g', AD N w' sb (S ++ bl s ++ rest) g' fs n xs ∧ (g' = g ∨ ∃ k, g' = some k ∧ w.heap.size ≤ k) ∧ Kp K w w' := by
  have H : Hid (AD N w sb S g fs n xs) := h
  have HRF : Hid (∀ W g1, Sk W sb (S ++ bl s) fs g1 → (g1 = g ∨ ∃ k, g1 = some k ∧ w.heap.size ≤ k) → Mv sb g w W → Calls Tryd.prog 25 #[.pointer (some ⟨sb, 0, none⟩), rv] W fun e w' => e = .returned (.tuple #[.int .i64 rest.length, .iface 73 (.pointer (some xA))]) ∧
      ∃ g', Sk w' sb (S ++ bl s ++ rest) fs g' ∧ (g' = g1 ∨ ∃ k, g' = some k ∧ W.heap.size ≤ k) ∧ Kp (fun k => K k ∨ fs.ownBlock = some k) W w') := hrf
  have HK : Hid (∀ k, K k → k < w.heap.size ∧ k ≠ sb ∧ g ≠ some k ∧ fs.ownBlock ≠ some k) := hK
  clear h hrf hK
  go_enter Tryd.func17, Tryd.ntmps17
  go_wp2_with fail
  refine Calls.mono (len23 H.out.sk (by omega)) ?_
  rintro e W0 ⟨rfl, k0, hW0⟩
  have M0 : Hid (Mv sb g w W0) := by rw [hW0]; exact (Mv.refl _ _ _).drewN k0
  have S0 : Hid (Sk W0 sb S fs g) := by rw [hW0]; exact H.out.sk.same rfl (fun _ _ => rfl)
  have Z0 : Hid (W0.heap.size = w.heap.size) := by rw [hW0]; rfl
  clear hW0
  go_wp2_with fail
  refine Calls.mono (ws24 sb g S s fs W0 S0.out (by omega)) ?_
  rintro e W1 ⟨rfl, g1, hs1, hg1, hM1⟩
  have M1 : Hid (Mv sb g w W1) := M0.out.trans hM1
  have S1 : Hid (Sk W1 sb (S ++ bl s) fs g1) := hs1
  have G1 : Hid (g1 = g ∨ ∃ k, g1 = some k ∧ w.heap.size ≤ k) := by rw [← Z0.out]; exact hg1
  clear hs1 hg1 hM1 S0 M0 Z0
  have hle1 : (S ++ bl s).length = S.length + s.size := by rw [List.length_append, bl_length]
  have C1 : Hid (Calls Tryd.prog 23 #[.pointer (some ⟨sb, 0, none⟩)] W1 fun e w' => e = .returned (.int .i64 (S.length + s.size)) ∧ ∃ n, w' = W1.drewN n) := by
    refine (len23 S1.out (by omega)).mono ?_
    rintro e w' ⟨rfl, hw⟩
    exact ⟨by rw [hle1]; simp, hw⟩
  clear hle1
  go_wp2_with fail
  refine Calls.mono C1.out ?_
  rintro e W2 ⟨rfl, k2, hW2⟩
  have M2 : Hid (Mv sb g w W2) := by rw [hW2]; exact M1.out.drewN k2
  have S2 : Hid (Sk W2 sb (S ++ bl s) fs g1) := by rw [hW2]; exact S1.out.same rfl (fun _ _ => rfl)
  clear hW2 M1 S1 C1
  go_wp2_with fail
  refine Calls.mono (HRF.out W2 g1 S2.out G1.out M2.out) ?_
  rintro e W3 ⟨rfl, g3, hs3, hg3, hk3⟩
  have O3 : W3.ownsRow N 52 4 fs n xs := by
    refine ⟨H.out.own.1, ?_⟩
    rcases H.out.own.2 with e | ⟨fb, cap, cur, e1, e2, e3, e4⟩
    · exact .inl e
    · have hb : fs.ownBlock = some fb := by rw [e1]; rfl
      have hlt : fb < w.heap.size := (Array.getElem?_eq_some_iff.1 e3).1
      exact .inr ⟨fb, cap, cur, e1, e2, (hk3.block fb (.inr hb)).trans ((M2.out.block fb hlt (fun e => H.out.ns (by rw [hb, e])) (fun e => (H.out.gN fb e.symm).2 hb)).trans e3), e4⟩
  have hz3 := Nat.le_trans M2.out.size hk3.size
  have HG3 : Hid (g3 = g ∨ ∃ k, g3 = some k ∧ w.heap.size ≤ k) := by
    rcases hg3 with e | ⟨k, e, hk⟩
    · rw [e]; exact G1.out
    · exact .inr ⟨k, e, Nat.le_trans M2.out.size hk⟩
  have HA3 : Hid (AD N W3 sb (S ++ bl s ++ rest) g3 fs n xs) := by
    refine ⟨hs3, O3, H.out.nsb, fun k hk => ?_, H.out.ns, Nat.le_trans H.out.low hz3⟩
    rcases HG3.out with e2 | ⟨k2, e2, hk2⟩
    · exact H.out.gN k (e2.symm.trans hk)
    · rw [e2] at hk; cases hk
      refine ⟨Nat.le_trans H.out.low hk2, fun e => ?_⟩
      have := (H.out.own.lt k e).2
      omega
  have HK3 : Hid (Kp K w W3) := (M2.out.kp fun k hk => ⟨(HK.out k hk).1, (HK.out k hk).2.1, fun e => (HK.out k hk).2.2.1 e.symm⟩).trans (hk3.mono fun k hk => .inl hk)
  clear hs3 hg3 hk3 O3 hz3 M2 S2 G1 HRF
  go_wp2_with fail
  go_ret
  exact ⟨rfl, g3, HA3.out, HG3.out, HK3.out⟩

theorem neq_nil (x : Addr) (W : World) : (binOp .neq 34 (.iface 73 (.pointer (some x))) .nilIface).run Tryd.prog W = .ok (.bool true) W := by rfl

/-- what a failed Add leaves. -/
def AddedF (N : Nat) (w : World) (sb : Nat) (S : List Int) (g : Option Nat) (fs : Value) (n : Nat) (xs : List Value) (name rest : List Int) (K : Nat → Prop) (w' : World) : Prop :=
  ∃ g', AD N w' sb (S ++ name ++ rest) g' fs n xs ∧ (g' = g ∨ ∃ k, g' = some k ∧ w.heap.size ≤ k) ∧ Kp K w w'

theorem addMulti {N sb : Nat} {w W5 : World} {S : List Int} {g : Option Nat} {fs : Value} {n : Nat} {xs : List Value} (h : AD N w sb S g fs n xs) (s e5 : ByteArray) (a : Option Addr) (l : List Int) (c : Nat) (hrd : Rd w a l) (hN1 : 1 < N) (hlc : l.length ≤ c)
    (hab : ∀ b o, a = some ⟨b, o, none⟩ → l ≠ [] → b ≠ sb ∧ g ≠ some b ∧ fs.ownBlock ≠ some b ∧ N ≤ b)
    (aE : Addr) (ca : Array Value) (ta : TypeId) (hE : w.cell? ⟨1, 0, none⟩ = some (.iface 73 (.pointer (some aE)))) (hee : w.heap[aE.block]? = some (.cells ca ta (0, 0))) (hae : aE.block < N)
    (hq2 : ∀ W, (binOp .eql 34 .nilIface (.iface 73 (.pointer (some aE)))).run Tryd.prog W = .ok (.bool false) W)
    (hlim : S.length + s.size + l.length ≤ 1048576) (K : Nat → Prop) (hK : ∀ k, K k → k < w.heap.size ∧ k ≠ sb ∧ g ≠ some k ∧ fs.ownBlock ≠ some k ∧ ∀ o, a = some ⟨k, o, none⟩ → l = [])
    (b5 : Below w.heap.size w W5) (z5 : W5.heap.size = w.heap.size + 6) (m0 : W5.heap[w.heap.size]? = some (.cells #[.slice a l.length c, .int .i64 0, .int .i64 (-1)] 64 (0, 0))) (m1 : W5.heap[w.heap.size + 1]? = some (.cells #[.string e5] 75 (0, 0)))
    (m2 : W5.heap[w.heap.size + 2]? = some (.cells #[.iface 73 (.pointer (some ⟨w.heap.size + 1, 0, none⟩))] 72 (0, 0))) (m4 : W5.heap[w.heap.size + 4]? = some (.cells #[.iface 46 (.pointer (some ⟨w.heap.size, 0, none⟩)), .iface 70 (.pointer (some ⟨w.heap.size + 2, 0, none⟩))] 54 (0, 0)))
    (m5 : W5.heap[w.heap.size + 5]? = some (.cells #[.slice (some ⟨w.heap.size + 4, 0, none⟩) 2 2] 69 (0, 0))) :
    Calls Tryd.prog 17 #[.pointer (some ⟨sb, 0, none⟩), .string s, .iface 67 (.pointer (some ⟨w.heap.size + 5, 0, none⟩))] W5 fun e w' => e = .returned (.iface 73 (.pointer (some ⟨w.heap.size + 1, 0, none⟩))) ∧ AddedF N w sb S g fs n xs (bl s) l K w' := by
  have hsl := h.sk.lt
  have hE1 := one_lt hE
  have hlow := h.low
  have hnsb := h.nsb
  have h5 : AD N W5 sb S g fs n xs := h.same b5.size (by
    rintro k (rfl | e | e)
    · exact b5.block _ hsl
    · exact b5.block k (h.row_lt k e)
    · exact b5.block k (h.own.lt k e).2)
  have hA : Apart (w.heap.size + 5) (w.heap.size + 4) w.heap.size (w.heap.size + 2) (w.heap.size + 1) := by constructor <;> omega
  have hxne : (⟨w.heap.size + 1, 0, none⟩ : Addr) ≠ aE := by intro e; rw [← e] at hae; simp at hae; omega
  have RF := readsF51 (w.heap.size + 5) (w.heap.size + 4) w.heap.size (w.heap.size + 2) (w.heap.size + 1) a l c aE e5 ca ta hA ⟨by omega, by omega⟩ hxne hq2
  have hMR : MR (w.heap.size + 5) (w.heap.size + 4) w.heap.size (w.heap.size + 2) (w.heap.size + 1) a l c (.iface 73 (.pointer (some aE))) e5 W5 l := by
    refine ⟨⟨0, -1, Nat.zero_le _, rfl, m0, hrd.later b5, ?_, (World.cell?_of_block (w := w) (b5.block 1 hE1)).trans hE, hlc, by omega, by omega⟩, m5, m4, m2, m1, ?_⟩
    · intro b o e hl
      subst e
      have := hrd.lt hl
      omega
    · intro b o e hl
      subst e
      have := hrd.lt hl
      omega
  have hD : ∀ k, k < w.heap.size → (∀ o, a = some ⟨k, o, none⟩ → l = []) → ¬ MD (w.heap.size + 5) (w.heap.size + 4) w.heap.size (w.heap.size + 2) (w.heap.size + 1) a l k := by
    rintro k hk h2 ((rfl | ⟨hl, o, e⟩) | e | e | e | e)
    · omega
    · exact hl (h2 o e)
    all_goals omega
  have hDs := hD sb hsl (fun o e => by
    by_cases hl : l = []
    · exact hl
    · exact absurd rfl (hab sb o e hl).1)
  have hK' : ∀ k, (K k ∨ k = aE.block) → k < w.heap.size ∧ k ≠ sb ∧ g ≠ some k ∧ fs.ownBlock ≠ some k ∧ ∀ o, a = some ⟨k, o, none⟩ → l = [] := by
    rintro k (hk | rfl)
    · exact hK k hk
    · refine ⟨by omega, by omega, fun e => ?_, fun e => ?_, fun o e => ?_⟩
      · have := (h.gN _ e).1; omega
      · have := (h.own.lt _ e).1; omega
      · by_cases hl : l = []
        · exact hl
        · have := (hab _ o e hl).2.2.2; omega
  refine Calls.mono (addF17 (rest := l) (xA := ⟨w.heap.size + 1, 0, none⟩) h5 s (fun k => K k ∨ k = aE.block) (fun W => neq_nil _ W) hlim (fun k hk => ⟨by have := (hK' k hk).1; omega, (hK' k hk).2.1, (hK' k hk).2.2.1, (hK' k hk).2.2.2.1⟩) ?_) ?_
  · intro W g1 hSk hg1 hM
    have hkeep : ∀ k, MD (w.heap.size + 5) (w.heap.size + 4) w.heap.size (w.heap.size + 2) (w.heap.size + 1) a l k ∨ k = 1 → W.heap[k]? = W5.heap[k]? := by
      intro k hk
      refine hM.block k ?_ ?_ ?_
      · rcases hk with hk | rfl
        · exact RF.low _ _ k hMR hk
        · omega
      · rcases hk with hk | rfl
        · rintro rfl; exact hDs hk
        · omega
      · intro e
        have hkl := h.row_lt k e.symm
        rcases hk with hk | rfl
        · refine hD k hkl (fun o e2 => ?_) hk
          by_cases hl : l = []
          · exact hl
          · exact absurd e.symm (hab k o e2 hl).2.1
        · have := (h.gN 1 e.symm).1; omega
    have hokW : W.heap[aE.block]? = some (.cells ca ta (0, 0)) := by
      have hh := hK' aE.block (.inr rfl)
      exact (hM.block aE.block (by omega) hh.2.1 (fun e => hh.2.2.1 e.symm)).trans ((b5.block _ hh.1).trans hee)
    refine rfF25 W sb (w.heap.size + 5) 73 aE ⟨w.heap.size + 1, 0, none⟩ _ (MD (w.heap.size + 5) (w.heap.size + 4) w.heap.size (w.heap.size + 2) (w.heap.size + 1) a l) (fun k => (K k ∨ k = aE.block) ∨ fs.ownBlock = some k) _ _ RF ?_ ?_ (fun W => neq_nil _ W) hq2 g1 (S ++ bl s) l fs hSk (RF.stab _ _ _ hMR hkeep) hDs (by omega) ?_ (by rw [List.length_append, bl_length]; exact hlim) ?_ ?_ ?_
    · intro W' hKp
      exact (hKp.block aE.block (.inl (.inr rfl))).trans hokW
    · intro W' v hKp hbad
      refine (eql_other hxne ((Below.heap_setCell _ _ _ _ ?_).trans hbad) ((hKp.block aE.block (.inl (.inr rfl))).trans hokW)).1
      show w.heap.size + 1 ≠ sb
      omega
    · intro k hk
      rcases hg1 with e | ⟨k2, e, hk2⟩
      · rw [e] at hk
        have hkl := h.row_lt k hk
        refine ⟨hD k hkl (fun o e2 => ?_), by have := (h.gN k hk).1; omega, ?_⟩
        · by_cases hl : l = []
          · exact hl
          · exact absurd hk (hab k o e2 hl).2.1
        · rintro (h2 | h2)
          · exact (hK' k h2).2.2.1 hk
          · exact (h.gN k hk).2 h2
      · rw [e] at hk
        cases hk
        refine ⟨?_, by omega, ?_⟩
        · intro hd
          have := RF.low _ _ k hMR hd
          omega
        · rintro (h2 | h2)
          · have := (hK' k h2).1; omega
          · have := (h.own.lt k h2).2; omega
    · rintro (h2 | h2)
      · exact (hK' sb h2).2.1 rfl
      · exact h.ns h2
    · rintro k (h2 | h2)
      · have := (hK' k h2).1; have := hM.size; omega
      · have := (h.own.lt k h2).2; have := hM.size; omega
    · rintro k (h2 | h2)
      · exact hD k (hK' k h2).1 (hK' k h2).2.2.2.2
      · refine hD k (h.own.lt k h2).2 (fun o e2 => ?_)
        by_cases hl : l = []
        · exact hl
        · exact absurd h2 (hab k o e2 hl).2.2.1
  · rintro e w' ⟨he, g', hAD, hg, hKp⟩
    refine ⟨he, g', hAD, ?_, ?_⟩
    · rcases hg with e | ⟨k, e, hk⟩
      · exact .inl e
      · exact .inr ⟨k, e, by omega⟩
    · exact Kp.trans (w2 := W5) ⟨b5.os, b5.tape, b5.output, b5.size, fun k hk => b5.block k (hK k hk).1⟩ (hKp.mono fun k hk => .inl hk)

end Go.Proofs.Qxb6613323aDoor.Do
