/-
  (*RawFields).Add (17), whatever ReadFrom does with its reader.
-/
import Derived.Test.Qxb6613323aDoorDoG
import Derived.Test.Qxb6613323aDoorDoI
import Derived.Deep.RegionLaw
import Derived.Deep.AppendLies
import Derived.Stop.LaidErr
namespace Go.Proofs.Qxb6613323aDoor.Do
open Go.ChangeShapes Go.WideShapes Go.ChangeAt Go.RowKit

theorem Bf.c3 {w : World} {sb : Nat} {v : Value} {lr : Int} {fs : Value} (h : Bf w sb v lr fs) : w.cell? ⟨sb, 3, none⟩ = some fs := by unfold Bf at h; simp [World.cell?, h]
theorem Bf.set3 {w : World} {sb : Nat} {v : Value} {lr : Int} {fs : Value} (h : Bf w sb v lr fs) (x : Value) : Bf (w.setCell ⟨sb, 3, none⟩ x) sb v lr x := by
  unfold Bf; rw [set_block h]; rfl

theorem Sk.bf {w : World} {sb : Nat} {S : List Int} {fs : Value} {g : Option Nat} (h : Sk w sb S fs g) : ∃ v lr, Bf w sb v lr fs := by
  cases g with
  | none => exact ⟨_, h.2.choose, h.2.choose_spec⟩
  | some k => obtain ⟨cap, cur, lr, a, _⟩ := h; exact ⟨_, lr, a⟩
theorem Sk.lt {w : World} {sb : Nat} {S : List Int} {fs : Value} {g : Option Nat} (h : Sk w sb S fs g) : sb < w.heap.size := by obtain ⟨_, _, h⟩ := h.bf; exact h.lt
theorem Sk.c3 {w : World} {sb : Nat} {S : List Int} {fs : Value} {g : Option Nat} (h : Sk w sb S fs g) : w.cell? ⟨sb, 3, none⟩ = some fs := by obtain ⟨_, _, h⟩ := h.bf; exact h.c3
theorem Sk.free {w : World} {sb : Nat} {S : List Int} {fs : Value} {g : Option Nat} (h : Sk w sb S fs g) (o : Nat) : w.frozen? ⟨sb, o, none⟩ = false := by obtain ⟨_, _, h⟩ := h.bf; exact h.free o
theorem Sk.row_lt {w : World} {sb : Nat} {S : List Int} {fs : Value} {k : Nat} (h : Sk w sb S fs (some k)) : k < w.heap.size := by
  obtain ⟨_, _, _, _, h, _⟩ := h
  exact (Array.getElem?_eq_some_iff.1 h).1
/-- in a world that has the two blocks as they were. -/
theorem Sk.same {w w' : World} {sb : Nat} {S : List Int} {fs : Value} {g : Option Nat} (h : Sk w sb S fs g) (h1 : w'.heap[sb]? = w.heap[sb]?) (h2 : ∀ k, g = some k → w'.heap[k]? = w.heap[k]?) : Sk w' sb S fs g := by
  cases g with
  | none => exact ⟨h.1, h.2.choose, h1.trans h.2.choose_spec⟩
  | some k =>
    obtain ⟨cap, cur, lr, a, b, r⟩ := h
    exact ⟨cap, cur, lr, h1.trans a, (h2 k rfl).trans b, r⟩
/-- behind a store of the fields' slice. -/
theorem Sk.fields {w : World} {sb : Nat} {S : List Int} {fs : Value} {g : Option Nat} (h : Sk w sb S fs g) (x : Value) : Sk (w.setCell ⟨sb, 3, none⟩ x) sb S x g := by
  cases g with
  | none => exact ⟨h.1, h.2.choose, h.2.choose_spec.set3 x⟩
  | some k =>
    obtain ⟨cap, cur, lr, a, b, r⟩ := h
    exact ⟨cap, cur, lr, a.set3 x, (Below.heap_setCell _ _ _ _ r.2.2.2.2).trans b, r⟩

theorem len23 {w : World} {sb : Nat} {S : List Int} {fs : Value} {g : Option Nat} (h : Sk w sb S fs g) (hl : S.length ≤ 140737488355328) :
    Calls Tryd.prog 23 #[.pointer (some ⟨sb, 0, none⟩)] w fun e w' => e = .returned (.int .i64 S.length) ∧ ∃ n, w' = w.drewN n := by
  cases g with
  | none =>
    obtain ⟨rfl, lr, hb⟩ := h
    exact len41 sb none 0 0 lr fs w hb (Nat.zero_le _)
  | some k =>
    obtain ⟨cap, cur, lr, hb, _⟩ := h
    exact len41 sb _ S.length cap lr fs w hb hl

/-- the RawFields in block sb: its buffer holds S (in the row g), its fields are xs (n of them, four cells each); all of it at N or behind. -/
structure AD (N : Nat) (w : World) (sb : Nat) (S : List Int) (g : Option Nat) (fs : Value) (n : Nat) (xs : List Value) : Prop where
  sk : Sk w sb S fs g
  own : w.ownsRow N 52 4 fs n xs
  nsb : N ≤ sb
  gN : ∀ k, g = some k → N ≤ k ∧ fs.ownBlock ≠ some k
  ns : fs.ownBlock ≠ some sb
  low : N ≤ w.heap.size

/-- a field's four cells. -/
def F4 (a b c d : Int) : List Value := [.int .i64 a, .int .i64 b, .int .i64 c, .int .i64 d]

theorem info52 : ∃ i z, Tryd.prog.info? 52 = some i ∧ i.zero = some z ∧ i.size = 4 ∧ i.bytes = 32 ∧ z.cells.size = 4 := by
  have h : (Tryd.prog.info? 52).map (fun i => (i.zero.map (·.cells.size), i.size, i.bytes)) = some (some 4, 4, 32) := by kernel_rfl
  cases hi : Tryd.prog.info? 52 with
  | none => rw [hi] at h; cases h
  | some i =>
    rw [hi] at h
    cases hz : i.zero with
    | none => simp [hz] at h
    | some z =>
      simp [hz] at h
      exact ⟨i, z, rfl, hz, h.2.1, h.2.2, h.1⟩

theorem alloc_le (w : World) (o : Obj) : w.heap.size ≤ (w.alloc o).heap.size := by
  show w.heap.size ≤ (w.heap.push o).size
  simp

/-- behind the append: the buffer stands as it stood. -/
theorem appended_sk {sb : Nat} {W4 W5 : World} {S : List Int} {g3 : Option Nat} {fs : Value} {o : Obj} (hs : Sk W4 sb S fs g3) (hgrow : (W4.alloc o).grownBy W5 fs.ownBlock) (hns : fs.ownBlock ≠ some sb) (hgf : ∀ k, g3 = some k → fs.ownBlock ≠ some k) : Sk W5 sb S fs g3 := by
  have key : ∀ k, k < W4.heap.size → fs.ownBlock ≠ some k → W5.heap[k]? = W4.heap[k]? := fun k hk hne =>
    (hgrow.block k (by simp; omega) (fun e => hne e.symm)).trans (Below.heap_alloc _ _ _ hk)
  refine hs.same (key sb hs.lt hns) fun k hk => ?_
  subst hk
  exact key k hs.row_lt (hgf k rfl)

theorem appended {N sb g5 cap5 n : Nat} {w W4 W5 : World} {S : List Int} {g3 : Option Nat} {fs : Value} {xs : List Value} {o : Obj} {K : Nat → Prop} (hs : Sk W4 sb S fs g3) (hgrow : (W4.alloc o).grownBy W5 fs.ownBlock)
    (hown : W5.ownsRow N 52 4 (.slice (some ⟨g5, 0, none⟩) n cap5) n xs) (hat : fs.ownBlock = some g5 ∨ g5 = W4.heap.size + 1) (hns : fs.ownBlock ≠ some sb) (hgf : ∀ k, g3 = some k → N ≤ k ∧ fs.ownBlock ≠ some k) (hN : N ≤ sb) (hNs : N ≤ W4.heap.size) (hwz : w.heap.size ≤ W4.heap.size)
    (hK : Kp K w W4) (hKk : ∀ k, K k → k < w.heap.size ∧ k ≠ sb ∧ fs.ownBlock ≠ some k) :
    AD N (W5.setCell ⟨sb, 3, none⟩ (.slice (some ⟨g5, 0, none⟩) n cap5)) sb S g3 (.slice (some ⟨g5, 0, none⟩) n cap5) n xs ∧
      ((Value.slice (some ⟨g5, 0, none⟩) n cap5).ownBlock = fs.ownBlock ∨ ∃ k, (Value.slice (some ⟨g5, 0, none⟩) n cap5).ownBlock = some k ∧ w.heap.size ≤ k) ∧ Kp K w (W5.setCell ⟨sb, 3, none⟩ (.slice (some ⟨g5, 0, none⟩) n cap5)) := by
  have hs5 := appended_sk hs hgrow hns (fun k hk => (hgf k hk).2)
  have hsz : W4.heap.size + 1 ≤ W5.heap.size := by have := hgrow.size; simpa using this
  have hsb : g5 ≠ sb := by
    rcases hat with e | e
    · intro e2; exact hns (by rw [e, e2])
    · have := hs.lt; omega
  refine ⟨⟨hs5.fields _, ?_, hN, fun k hk => ⟨(hgf k hk).1, ?_⟩, ?_, ?_⟩, ?_, ?_⟩
  · refine ⟨hown.1, ?_⟩
    rcases hown.2 with e | ⟨g, cap, cur, e1, e2, e3, e4⟩
    · cases e.1
    · cases e1
      exact .inr ⟨g5, cap5, cur, rfl, e2, (Below.heap_setCell _ _ _ _ hsb).trans e3, e4⟩
  · show some g5 ≠ some k
    rcases hat with e | e
    · rw [← e]; exact (hgf k hk).2
    · subst hk; have := hs.row_lt; simp; omega
  · show some g5 ≠ some sb
    simpa using hsb
  · have : (W5.setCell ⟨sb, 3, none⟩ (.slice (some ⟨g5, 0, none⟩) n cap5)).heap.size = W5.heap.size := by simp [World.setCell]
    omega
  · show some g5 = _ ∨ ∃ k, some g5 = some k ∧ _
    rcases hat with e | e
    · exact .inl e.symm
    · exact .inr ⟨g5, rfl, by omega⟩
  · refine (hK.trans ⟨hgrow.os, hgrow.tape, hgrow.output, by omega, fun k hk => ?_⟩).setCell (fun hk => (hKk sb hk).2.1 rfl) _ _
    have h1 := (hKk k hk).1
    exact (hgrow.block k (by simp; omega) (fun e => (hKk k hk).2.2 e.symm)).trans (Below.heap_alloc _ _ _ (by omega))

set_option maxHeartbeats 4000000 in
set_option maxRecDepth 100000 in
theorem add17 {N sb : Nat} {w : World} {S rest : List Int} {g : Option Nat} {fs rv : Value} {n : Nat} {xs : List Value} (h : AD N w sb S g fs n xs) (s : ByteArray) (K : Nat → Prop) (hn : n ≤ 1000)
    (hlim : S.length + s.size + rest.length ≤ 1048576) (hK : ∀ k, K k → k < w.heap.size ∧ k ≠ sb ∧ g ≠ some k ∧ fs.ownBlock ≠ some k)
    (hrf : ∀ W g1, Sk W sb (S ++ bl s) fs g1 → (g1 = g ∨ ∃ k, g1 = some k ∧ w.heap.size ≤ k) → Mv sb g w W → Calls Tryd.prog 25 #[.pointer (some ⟨sb, 0, none⟩), rv] W fun e w' => e = .returned (.tuple #[.int .i64 rest.length, .nilIface]) ∧
      ∃ g', Sk w' sb (S ++ bl s ++ rest) fs g' ∧ (g' = g1 ∨ ∃ k, g' = some k ∧ W.heap.size ≤ k) ∧ Kp (fun k => K k ∨ fs.ownBlock = some k) W w') :
    Calls Tryd.prog 17 #[.pointer (some ⟨sb, 0, none⟩), .string s, rv] w fun e w' => e = .returned .nilIface ∧ ∃ g' fs', AD N w' sb (S ++ bl s ++ rest) g' fs' (n + 1) (xs ++ F4 S.length (S.length + s.size) (S.length + s.size) (S.length + s.size + rest.length)) ∧
      (g' = g ∨ ∃ k, g' = some k ∧ w.heap.size ≤ k) ∧ (fs'.ownBlock = fs.ownBlock ∨ ∃ k, fs'.ownBlock = some k ∧ w.heap.size ≤ k) ∧ Kp K w w' := by
  have H : Hid (AD N w sb S g fs n xs) := h
  have HRF : Hid (∀ W g1, Sk W sb (S ++ bl s) fs g1 → (g1 = g ∨ ∃ k, g1 = some k ∧ w.heap.size ≤ k) → Mv sb g w W → Calls Tryd.prog 25 #[.pointer (some ⟨sb, 0, none⟩), rv] W fun e w' => e = .returned (.tuple #[.int .i64 rest.length, .nilIface]) ∧
      ∃ g', Sk w' sb (S ++ bl s ++ rest) fs g' ∧ (g' = g1 ∨ ∃ k, g' = some k ∧ W.heap.size ≤ k) ∧ Kp (fun k => K k ∨ fs.ownBlock = some k) W w') := hrf
  have HK : Hid (∀ k, K k → k < w.heap.size ∧ k ≠ sb ∧ g ≠ some k ∧ fs.ownBlock ≠ some k) := hK
  clear h hrf hK
  go_enter Tryd.func17, Tryd.ntmps17
  go_wp2_with fail
  refine Calls.mono (len23 H.out.sk (by omega)) ?_
  rintro e W0 ⟨rfl, k0, hW0⟩
  have M0 : Hid (Mv sb g w W0) := by rw [hW0]; exact (Mv.refl _ _ _).drewN k0
  have S0 : Hid (Sk W0 sb S fs g) := by rw [hW0]; exact H.out.sk.same rfl (fun _ _ => rfl)
  have Z0 : Hid (W0.heap.size = w.heap.size) := by rw [hW0]; rfl
  clear hW0
  go_wp2_with fail
  refine Calls.mono (ws24 sb g S s fs W0 S0.out (by omega)) ?_
  rintro e W1 ⟨rfl, g1, hs1, hg1, hM1⟩
  have M1 : Hid (Mv sb g w W1) := M0.out.trans hM1
  have S1 : Hid (Sk W1 sb (S ++ bl s) fs g1) := hs1
  have G1 : Hid (g1 = g ∨ ∃ k, g1 = some k ∧ w.heap.size ≤ k) := by rw [← Z0.out]; exact hg1
  clear hs1 hg1 hM1 S0 M0 Z0
  have hle1 : (S ++ bl s).length = S.length + s.size := by rw [List.length_append, bl_length]
  have C1 : Hid (Calls Tryd.prog 23 #[.pointer (some ⟨sb, 0, none⟩)] W1 fun e w' => e = .returned (.int .i64 (S.length + s.size)) ∧ ∃ n, w' = W1.drewN n) := by
    refine (len23 S1.out (by omega)).mono ?_
    rintro e w' ⟨rfl, hw⟩
    exact ⟨by rw [hle1]; simp, hw⟩
  clear hle1
  go_wp2_with fail
  refine Calls.mono C1.out ?_
  rintro e W2 ⟨rfl, k2, hW2⟩
  have M2 : Hid (Mv sb g w W2) := by rw [hW2]; exact M1.out.drewN k2
  have S2 : Hid (Sk W2 sb (S ++ bl s) fs g1) := by rw [hW2]; exact S1.out.same rfl (fun _ _ => rfl)
  clear hW2 M1 S1 C1
  go_wp2_with fail
  refine Calls.mono (HRF.out W2 g1 S2.out G1.out M2.out) ?_
  rintro e W3 ⟨rfl, g3, hs3, hg3, hk3⟩
  have O3 : W3.ownsRow N 52 4 fs n xs := by
    refine ⟨H.out.own.1, ?_⟩
    rcases H.out.own.2 with e | ⟨fb, cap, cur, e1, e2, e3, e4⟩
    · exact .inl e
    · have hb : fs.ownBlock = some fb := by rw [e1]; rfl
      have hlt : fb < w.heap.size := (Array.getElem?_eq_some_iff.1 e3).1
      exact .inr ⟨fb, cap, cur, e1, e2, (hk3.block fb (.inr hb)).trans ((M2.out.block fb hlt (fun e => H.out.ns (by rw [hb, e])) (fun e => (H.out.gN fb e.symm).2 hb)).trans e3), e4⟩
  have hle3 : (S ++ bl s ++ rest).length = S.length + s.size + rest.length := by rw [List.length_append, List.length_append, bl_length]
  have C3 : Hid (Calls Tryd.prog 23 #[.pointer (some ⟨sb, 0, none⟩)] W3.drew fun e w' => e = .returned (.int .i64 (S.length + s.size + rest.length)) ∧ ∃ n, w' = W3.drew.drewN n) := by
    have hs : Sk W3.drew sb (S ++ bl s ++ rest) fs g3 := hs3.same rfl (fun _ _ => rfl)
    refine (len23 hs (by omega)).mono ?_
    rintro e w' ⟨rfl, hw⟩
    exact ⟨by rw [hle3]; simp, hw⟩
  have c3 := hs3.c3
  have f3 := hs3.free 3
  have hlt3 := hs3.lt
  have S3 : Hid (Sk W3 sb (S ++ bl s ++ rest) fs g3) := hs3
  have HO3 : Hid (W3.ownsRow N 52 4 fs n xs) := O3
  have HZ : Hid (w.heap.size ≤ W3.heap.size) := Nat.le_trans M2.out.size hk3.size
  have HK3 : Hid (Kp K w W3) := (M2.out.kp fun k hk => ⟨(HK.out k hk).1, (HK.out k hk).2.1, fun e => (HK.out k hk).2.2.1 e.symm⟩).trans (hk3.mono fun k hk => .inl hk)
  have HG3 : Hid (g3 = g ∨ ∃ k, g3 = some k ∧ w.heap.size ≤ k) := by
    rcases hg3 with e | ⟨k, e, hk⟩
    · rw [e]; exact G1.out
    · exact .inr ⟨k, e, Nat.le_trans M2.out.size hk⟩
  obtain ⟨i52, z52, q1, q2, q3, q4, q5⟩ := info52
  have HI : Hid (Tryd.prog.info? 52 = some i52 ∧ i52.zero = some z52 ∧ i52.size = 4 ∧ i52.bytes = 32 ∧ z52.cells.size = 4) := ⟨q1, q2, q3, q4, q5⟩
  clear q1 q2 q3 q4 q5 hs3 hg3 hk3 O3 hle3 M2 S2 G1 HRF
  go_wp2_with fail
  have HB1 : Hid (∀ u ∈ F4 S.length (S.length + s.size) (S.length + s.size) (S.length + s.size + rest.length), u.oneCell' = true) := by
    intro u hu
    simp only [F4, List.mem_cons, List.not_mem_nil, or_false] at hu
    rcases hu with rfl | rfl | rfl | rfl <;> rfl
  have HF3 : Hid (∀ k, g3 = some k → fs.ownBlock ≠ some k) := by
    intro k hk e
    rcases HG3.out with e2 | ⟨k2, e2, hk2⟩
    · exact (H.out.gN k (e2.symm.trans hk)).2 e
    · rw [e2] at hk; cases hk
      have := (H.out.own.lt k e).2
      omega
  have HN3 : Hid (∀ k, g3 = some k → N ≤ k) := by
    intro k hk
    rcases HG3.out with e2 | ⟨k2, e2, hk2⟩
    · exact (H.out.gN k (e2.symm.trans hk)).1
    · rw [e2] at hk; cases hk
      have := H.out.low
      omega
  go_region_law (first
    | (refine step_append_lies _ (by rfl) _ _ _ (by rfl) N 52 i52 z52 4 32 Tryd.underlying30 HI.out.1 HI.out.2.1 HI.out.2.2.1 HI.out.2.2.2.1 HI.out.2.2.2.2 (by omega) fs n xs (by rfl) (HO4.out.alloc _) ⟨W4.heap.size, 0, none⟩ 1 1 (F4 S.length (S.length + s.size) (S.length + s.size) (S.length + s.size + rest.length)) (by rfl) (by rfl) (World.news_of_block (heap_alloc_new W4 _)) HB1.out (by omega) (by unfold maxLen; omega) (by omega) HNS.out (W4.heap.size + 1) (by simp) ?_; intro g5 cap5 W5 hown hgrow hat hlt5; have hs5 := appended_sk S4.out hgrow H.out.ns (fun k hk => HF3.out k hk); have c5 := hs5.c3; have f5 := hs5.free 3; obtain ⟨ha1, ha2, ha3⟩ := appended (K := K) (w := w) S4.out hgrow hown hat H.out.ns (fun k hk => ⟨HN3.out k hk, HF3.out k hk⟩) H.out.nsb HN4.out Z4.out K4.out (fun k hk => ⟨(HK.out k hk).1, (HK.out k hk).2.1, (HK.out k hk).2.2.2⟩); have A1 : Hid _ := ha1; have A2 : Hid _ := ha2; have A3 : Hid _ := ha3; clear ha1 ha2 ha3 hs5 hown hgrow hat hlt5 S4)
    | (go_simp; go_wp2_with (go_at_call 23; refine Calls.mono C3.out ?_; rintro e W4 ⟨rfl, k4, hW4⟩; have c4 : W4.cell? ⟨sb, 3, none⟩ = some fs := by { rw [hW4]; exact c3 }; have HO4 : Hid (W4.ownsRow N 52 4 fs n xs) := by { rw [hW4]; exact HO3.out }; have S4 : Hid (Sk W4 sb (S ++ bl s ++ rest) fs g3) := by { rw [hW4]; exact S3.out.same rfl (fun _ _ => rfl) }; have K4 : Hid (Kp K w W4) := by { rw [hW4]; exact (HK3.out.drewN 1).drewN k4 }; have Z4 : Hid (w.heap.size ≤ W4.heap.size) := by { rw [hW4]; exact HZ.out }; have HN4 : Hid (N ≤ W4.heap.size) := Nat.le_trans H.out.low Z4.out; have HNS : Hid (N ≤ (W4.alloc (.cells (F4 S.length (S.length + s.size) (S.length + s.size) (S.length + s.size + rest.length)).toArray 52)).heap.size) := Nat.le_trans HN4.out (alloc_le _ _); have c4a : ∀ o, (W4.alloc o).cell? ⟨sb, 3, none⟩ = some fs := fun o => cell?_alloc_old o c4; clear hW4 c3 f3 C3 HO3 HK3 S3)))
  all_goals
    go_wp2_with fail
    go_ret
    exact ⟨rfl, g3, _, A1.out, HG3.out, A2.out, A3.out⟩

end Go.Proofs.Qxb6613323aDoor.Do
