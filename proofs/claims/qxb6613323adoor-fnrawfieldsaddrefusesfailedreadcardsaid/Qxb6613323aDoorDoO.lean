/-
  What stands in memory between the calls of the two laws ('St'); the length test (5) and the law's early ways out.
-/
import Derived.Test.Qxb6613323aDoorDoN
namespace Go.Proofs.Qxb6613323aDoor.Do
open Go.ChangeShapes Go.WideShapes Go.ChangeAt Go.RowKit

/-- the RawFields in block sb holds S and the fields xs; the slices of rs read as they read; all that was there ahead of the law's call (the blocks below N) is as it was. -/
def St (N : Nat) (w : World) (sb : Nat) (S : List Int) (n : Nat) (xs : List Value) (E : Value) (rs : List (Option Addr × List Int)) (W : World) : Prop :=
  ∃ g fs, AD N W sb S g fs n xs ∧ (∀ k, g = some k ∨ fs.ownBlock = some k → sb < k) ∧ (∀ r ∈ rs, Rd W r.1 r.2 ∧ ∀ b o, r.1 = some ⟨b, o, none⟩ → r.2 ≠ [] → N ≤ b ∧ b < sb) ∧ W.cell? ⟨1, 0, none⟩ = some E ∧ Below N w W

/-- the new RawFields. -/
theorem St.new {N : Nat} {w V : World} {E : Value} {rs : List (Option Addr × List Int)} (hN : N ≤ V.heap.size) (hr : ∀ r ∈ rs, Rd V r.1 r.2 ∧ ∀ b o, r.1 = some ⟨b, o, none⟩ → r.2 ≠ [] → N ≤ b) (hE : V.cell? ⟨1, 0, none⟩ = some E) (hb : Below N w V) :
    St N w V.heap.size [] 0 [] E rs (V.alloc (.cells #[.slice none 0 0, .int .i64 0, .int .i8 0, .slice none 0 0] 32)) := by
  refine ⟨none, .slice none 0 0, ⟨⟨rfl, 0, ?_⟩, World.ownsRow_nil _ _ _ _, hN, (fun k e => by cases e), (fun e => by cases e), Nat.le_trans hN (alloc_le _ _)⟩, (fun k e => by rcases e with e | e <;> cases e), fun r hm => ⟨?_, fun b o e hl => ⟨(hr r hm).2 b o e hl, ?_⟩⟩, ?_, ?_⟩
  · unfold Bf; exact alloc_new _ _
  · exact (hr r hm).1.same (fun k o e hl => alloc_old _ _ (by have h2 := (hr r hm).1; rw [e] at h2; exact h2.lt hl))
  · have h2 := (hr r hm).1
    rw [e] at h2
    exact h2.lt hl
  · exact (World.cell?_of_block (w := V) (alloc_old _ _ (one_lt hE))).trans hE
  · exact hb.alloc hN _

theorem St.drewN {N : Nat} {w W : World} {sb : Nat} {S : List Int} {n : Nat} {xs : List Value} {E : Value} {rs : List (Option Addr × List Int)} (h : St N w sb S n xs E rs W) (k : Nat) : St N w sb S n xs E rs (W.drewN k) := by
  obtain ⟨g, fs, h1, h2, h3, h4, h5⟩ := h
  exact ⟨g, fs, h1.same (Nat.le_refl _) (fun _ _ => rfl), h2, h3, h4, below_drewN h5 k⟩

/-- behind new blocks alone. -/
theorem St.later {N : Nat} {w W W' : World} {sb : Nat} {S : List Int} {n : Nat} {xs : List Value} {E : Value} {rs : List (Option Addr × List Int)} (h : St N w sb S n xs E rs W) (hb : Below W.heap.size W W') : St N w sb S n xs E rs W' := by
  obtain ⟨g, fs, h1, h2, h3, h4, h5⟩ := h
  refine ⟨g, fs, h1.same hb.size ?_, h2, fun r hm => ⟨(h3 r hm).1.later hb, (h3 r hm).2⟩, (World.cell?_of_block (w := W) (hb.block 1 (one_lt h4))).trans h4, h5.trans (hb.mono h1.low)⟩
  rintro k (rfl | e | e)
  · exact hb.block _ h1.sk.lt
  · exact hb.block k (h1.row_lt k e)
  · exact hb.block k (h1.own.lt k e).2

theorem St.add {N : Nat} {w W : World} {sb : Nat} {S : List Int} {n : Nat} {xs : List Value} {tE : TypeId} {aE : Addr} {rs : List (Option Addr × List Int)} {a : Option Addr} {l : List Int} (h : St N w sb S n xs (.iface tE (.pointer (some aE))) ((a, l) :: rs) W) (s : ByteArray) (m c : Nat) (hm : l.length = m) (hmc : m ≤ c) (hN1 : 1 < N)
    (hdis : ∀ r ∈ rs, ∀ b o o', a = some ⟨b, o, none⟩ → r.1 = some ⟨b, o', none⟩ → l = [] ∨ r.2 = [])
    (hq1 : ∀ W, (binOp .eql 34 (.iface tE (.pointer (some aE))) (.iface tE (.pointer (some aE)))).run Tryd.prog W = .ok (.bool true) W)
    (hq2 : ∀ W, (binOp .eql 34 .nilIface (.iface tE (.pointer (some aE)))).run Tryd.prog W = .ok (.bool false) W)
    (hn : n ≤ 1000) (hlim : S.length + s.size + m ≤ 1048576) :
    Calls Tryd.prog 8 #[.pointer (some ⟨sb, 0, none⟩), .string s, .slice a m c] W fun e w' => e = .returned .nilIface ∧ St N w sb (S ++ bl s ++ l) (n + 1) (xs ++ F4 S.length (S.length + s.size) (S.length + s.size) (S.length + s.size + m)) (.iface tE (.pointer (some aE))) rs w' := by
  subst hm
  obtain ⟨g, fs, h1, h2, h3, h4, h5⟩ := h
  have ha := h3 (a, l) (List.mem_cons_self)
  have hnsb := h1.nsb
  have hsl := h1.sk.lt
  refine Calls.mono (addBytes8 h1 s a l c ha.1 hN1 hmc ?_ tE aE h4 hq1 hq2 hn hlim (fun k => k < sb ∧ ∀ o, a = some ⟨k, o, none⟩ → l = []) ?_) ?_
  · intro b o e hl
    have hb := ha.2 b o e hl
    refine ⟨by omega, fun e2 => ?_, fun e2 => ?_, by omega⟩
    · have := h2 b (.inl e2); omega
    · have := h2 b (.inr e2); omega
  · intro k hk
    refine ⟨by omega, by omega, fun e2 => ?_, fun e2 => ?_, hk.2⟩
    · have := h2 k (.inl e2); omega
    · have := h2 k (.inr e2); omega
  · rintro e w' ⟨he, g', fs', hAD, hg, hf, hKp⟩
    refine ⟨he, g', fs', hAD, ?_, ?_, ?_, ?_⟩
    · rintro k (e2 | e2)
      · rcases hg with e | ⟨k', e, hk⟩
        · exact h2 k (.inl (e.symm.trans e2))
        · rw [e] at e2; cases e2; omega
      · rcases hf with e | ⟨k', e, hk⟩
        · exact h2 k (.inr (e.symm.trans e2))
        · rw [e] at e2; cases e2; omega
    · intro r hm
      have hr := h3 r (List.mem_cons_of_mem _ hm)
      refine ⟨hr.1.same (fun k o e hl => hKp.block k ⟨(hr.2 k o e hl).2, fun o' e' => ?_⟩), hr.2⟩
      rcases hdis r hm k o' o e' e with h | h
      · exact h
      · exact absurd h hl
    · refine (World.cell?_of_block (w := W) (hKp.block 1 ⟨by omega, fun o e => ?_⟩)).trans h4
      by_cases hl : l = []
      · exact hl
      · have := (ha.2 1 o e hl).1; omega
    · refine h5.trans ⟨hKp.os, hKp.tape, hKp.output, hKp.size, fun k hk => hKp.block k ⟨by omega, fun o e => ?_⟩⟩
      by_cases hl : l = []
      · exact hl
      · have := (ha.2 k o e hl).1; omega

set_option maxHeartbeats 1000000 in
theorem bytes5_any (s1 s2 : ByteArray) (a1 a2 : Option Addr) (m1 m2 c1 c2 : Nat) (w : World) :
    Calls Tryd.prog 5 #[.string s1, .slice a1 m1 c1, .string s2, .slice a2 m2 c2] w fun e w' => ∃ b, e = .returned (.bool b) ∧ w = w' := by
  go_enter Tryd.func5, Tryd.ntmps5
  go_wp2
  all_goals (go_ret; exact ⟨_, rfl, rfl⟩)

set_option maxHeartbeats 1000000 in
theorem bytes5_yes (s1 s2 : ByteArray) (a1 a2 : Option Addr) (m1 m2 c1 c2 : Nat) (w : World) (h1 : (s1.size : Int) ≤ 65536) (h2 : (m1 : Int) ≤ 65536) (h3 : (s2.size : Int) ≤ 65536) (h4 : (m2 : Int) ≤ 65536) :
    Calls Tryd.prog 5 #[.string s1, .slice a1 m1 c1, .string s2, .slice a2 m2 c2] w fun e w' => e = .returned (.bool true) ∧ w = w' := by
  go_enter Tryd.func5, Tryd.ntmps5
  go_wp2
  go_ret
  exact ⟨rfl, rfl⟩

set_option maxRecDepth 100000 in
set_option maxHeartbeats 4000000 in
theorem keeps_big (s1 s2 : ByteArray) (a1 a2 : Option Addr) (m1 m2 c1 c2 : Nat) (w : World) (h : (65536 : Int) < (s1.size : Int) ∨ (65536 : Int) < (m1 : Int) ∨ (65536 : Int) < (s2.size : Int) ∨ (65536 : Int) < (m2 : Int)) :
    Calls Tryd.prog 3 #[.string s1, .slice a1 m1 c1, .string s2, .slice a2 m2 c2] w fun e w' => e = .returned (.bool true) ∧ w = w' := by
  have C : Hid (Calls Tryd.prog 5 #[.string s1, .slice a1 m1 c1, .string s2, .slice a2 m2 c2] w fun e w' => ∃ b, e = .returned (.bool b) ∧ w = w') := bytes5_any s1 s2 a1 a2 m1 m2 c1 c2 w
  by_cases h1 : (65536 : Int) < (s1.size : Int)
  · go_enter Tryd.func3, Tryd.ntmps3
    go_wp2_with fail
    refine Calls.mono C.out ?_
    rintro e w' ⟨b, rfl, rfl⟩
    cases b
    all_goals
      go_wp2_with fail
      go_ret
      exact ⟨rfl, rfl⟩
  by_cases h2 : (65536 : Int) < (m1 : Int)
  · go_enter Tryd.func3, Tryd.ntmps3
    go_wp2_with fail
    refine Calls.mono C.out ?_
    rintro e w' ⟨b, rfl, rfl⟩
    cases b
    all_goals
      go_wp2_with fail
      go_ret
      exact ⟨rfl, rfl⟩
  by_cases h3 : (65536 : Int) < (s2.size : Int)
  · go_enter Tryd.func3, Tryd.ntmps3
    go_wp2_with fail
    refine Calls.mono C.out ?_
    rintro e w' ⟨b, rfl, rfl⟩
    cases b
    all_goals
      go_wp2_with fail
      go_ret
      exact ⟨rfl, rfl⟩
  have h4 : (65536 : Int) < (m2 : Int) := by omega
  clear h
  go_enter Tryd.func3, Tryd.ntmps3
  go_wp2_with fail
  refine Calls.mono C.out ?_
  rintro e w' ⟨b, rfl, rfl⟩
  cases b
  all_goals
    go_wp2_with fail
    go_ret
    exact ⟨rfl, rfl⟩

/-- the address x leads to the bytes l. -/
def SA (w : World) (x : Addr) (l : List Int) : Prop := ∀ i, i < l.length → w.cell? (x.add i) = some (.int .u8 (l.getD i 0))
theorem SA.later {w w' : World} {x : Addr} {l : List Int} (h : SA w x l) (hb : Below w.heap.size w w') : SA w' x l := fun i hi => (hb.cell (World.block_lt_of_cell? w _ (h i hi))).trans (h i hi)

theorem copiedSA (w : World) (x : Addr) (n c : Nat) (l : List Int) (hn : n ≤ 65536) (hl : l.length = n) (hr : SA w x l) :
    ∃ W1 W2, (Instr.makeSlice 22 (.int .i64 (n : Int)) (.int .i64 (n : Int))).run Tryd.prog w = .ok (.slice (some ⟨w.heap.size, 0, none⟩) n n) W1 ∧
      (∀ ty, (Builtin.copy_ #[22, 22] ty #[.slice (some ⟨w.heap.size, 0, none⟩) n n, .slice (some x) n c]).run Tryd.prog W1 = .ok (goInt n) W2) ∧
      Rd W2 (some ⟨w.heap.size, 0, none⟩) l ∧ Below w.heap.size w W2 := by
  obtain ⟨W1, W2, h1, h2, h3, h4⟩ := copied w x n c l hn (by omega) hr
  exact ⟨W1, W2, h1, h2, .inr ⟨_, _, rfl, fun i hi => by rw [Nat.zero_add]; exact h3 i (by omega)⟩, h4⟩

end Go.Proofs.Qxb6613323aDoor.Do
