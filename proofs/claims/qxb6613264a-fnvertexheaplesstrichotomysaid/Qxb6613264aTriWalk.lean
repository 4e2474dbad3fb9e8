/-
  The walk of FnVertexHeapLessTrichotomy (function 4).
-/
import Derived.Test.Qxb6613264aHeap
namespace Go.Proofs.Qxb6613264a.Heap
open Go.ChangeShapes Go.WideShapes Go.ChangeAt Go.RowKit

/-- too long: one of the two length tests says so. -/
theorem tri_long (a : Option Addr) (n c : Nat) (i j : Int) (w : World) (h : (65536 : Int) < (n : Int)) :
    Calls Try.prog 4 #[.slice a n c, .int .i64 i, .int .i64 j] w fun e w' => e = .returned (.bool true) ∧ w' = w := by
  by_cases h2 : (1048576 : Int) < (n : Int)
  · go_enter Try.func4, Try.ntmps4
    go_wp2_with (go_at_call 12; refine (bytes12_no _ _ _ _ _ _ h2).mono ?_; rintro e w' ⟨rfl, rfl⟩)
    go_ret
    exact ⟨rfl, rfl⟩
  · have h3 : (n : Int) ≤ 1048576 := by omega
    go_enter Try.func4, Try.ntmps4
    go_wp2_with (go_at_call 12; refine (bytes12_yes _ _ _ _ _ _ h3).mono ?_; rintro e w' ⟨rfl, rfl⟩)
    go_ret
    exact ⟨rfl, rfl⟩

set_option maxHeartbeats 400000 in
/-- an index out of range. -/
theorem tri_out (a : Option Addr) (n c : Nat) (i j : Int) (w : World) (h : (n : Int) ≤ 65536) (ho : i < 0 ∨ (n : Int) ≤ i ∨ j < 0 ∨ (n : Int) ≤ j) :
    Calls Try.prog 4 #[.slice a n c, .int .i64 i, .int .i64 j] w fun e w' => e = .returned (.bool true) ∧ w' = w := by
  have h3 : (n : Int) ≤ 1048576 := by omega
  by_cases h4 : i < 0
  · go_enter Try.func4, Try.ntmps4
    go_wp2_with (go_at_call 12; refine (bytes12_yes _ _ _ _ _ _ h3).mono ?_; rintro e w' ⟨rfl, rfl⟩)
    go_ret
    exact ⟨rfl, rfl⟩
  by_cases h5 : (n : Int) ≤ i
  · go_enter Try.func4, Try.ntmps4
    go_wp2_with (go_at_call 12; refine (bytes12_yes _ _ _ _ _ _ h3).mono ?_; rintro e w' ⟨rfl, rfl⟩)
    go_ret
    exact ⟨rfl, rfl⟩
  by_cases h6 : j < 0
  · go_enter Try.func4, Try.ntmps4
    go_wp2_with (go_at_call 12; refine (bytes12_yes _ _ _ _ _ _ h3).mono ?_; rintro e w' ⟨rfl, rfl⟩)
    go_ret
    exact ⟨rfl, rfl⟩
  · have h7 : (n : Int) ≤ j := by omega
    clear ho
    go_enter Try.func4, Try.ntmps4
    go_wp2_with (go_at_call 12; refine (bytes12_yes _ _ _ _ _ _ h3).mono ?_; rintro e w' ⟨rfl, rfl⟩)
    go_ret
    exact ⟨rfl, rfl⟩


set_option maxHeartbeats 1000000 in
/-- both positions lie in the heap. -/
theorem tri_in (x : Addr) (n c : Nat) (zs : List Int) (i j : Int) (w : World) (h : (n : Int) ≤ 65536) (hnz : n ≤ zs.length)
    (hcell : ∀ i, i < zs.length → w.cell? (x.add i) = some (.int .i64 (zs.getD i 0))) (hi0 : 0 ≤ i) (hi : i < (n : Int)) (hj0 : 0 ≤ j) (hj : j < (n : Int)) :
    Calls Try.prog 4 #[.slice (some x) n c, .int .i64 i, .int .i64 j] w fun e w' => e = .returned (.bool true) ∧ Below w.heap.size w w' := by
  have h3 : (n : Int) ≤ 1048576 := by omega
  obtain ⟨W1, W2, hmk, hcp, hcc, hB⟩ := copied w x n c zs (by omega) hnz hcell
  have hx := hcc i.toNat (by omega)
  have hy := hcc j.toNat (by omega)
  clear hcc hcell
  generalize zs.getD i.toNat 0 = p at hx
  generalize zs.getD j.toNat 0 = q at hy
  have HB : Hid (Below w.heap.size w W2) := hB
  clear hB hnz
  have hne : ∀ w : World, (binOp .neq 33 (.slice (some x) n c) (.slice none 0 0)).run Try.prog w = .ok (.bool true) w := fun w => by
    simpa using run_neq_slice_nil_any (P := Try.prog) w 33 3 (some x) n c 0 0 Try.underlying33
  have hx0 : W2.cell? ⟨w.heap.size, 0 + i.toNat, none⟩ = some (.int .i64 p) := by rw [Nat.zero_add]; exact hx
  have hy0 : W2.cell? ⟨w.heap.size, 0 + j.toNat, none⟩ = some (.int .i64 q) := by rw [Nat.zero_add]; exact hy
  rcases Int.lt_trichotomy p q with hpq | hpq | hpq
  · have hqp : ¬ q < p := by omega
    have d1 : decide (p < q) = true := decide_eq_true hpq
    have d2 : decide (q < p) = false := decide_eq_false hqp
    have d3 : (p != q) = true := by simp; omega
    have c1 := less13 w.heap.size 0 n n i j p q W2 hi0 hi hj0 hj hx0 hy0
    have c2 := fun k => less13 w.heap.size 0 n n j i q p (W2.drewN k) hj0 hj hi0 hi (by simpa using hy) (by simpa using hx)
    rw [d1] at c1
    simp only [d2] at c2
    have C1 : Hid _ := c1
    have C2 : Hid _ := c2
    clear c1 c2 hx0 hy0
    go_enter Try.func4, Try.ntmps4
    go_wp2_with (go_at_call 12; refine (bytes12_yes _ _ _ _ _ _ h3).mono ?_; rintro e w' ⟨rfl, rfl⟩)
    refine Calls.mono C1.out ?_
    rintro e w' ⟨rfl, k, rfl⟩
    go_wp2_with fail
    refine Calls.mono (C2.out k) ?_
    rintro e w' ⟨rfl, k2, rfl⟩
    go_wp2_with fail
    go_quiet (fail)
    go_wp2_with fail
    go_ret
    exact ⟨rfl, below_drewN (below_drewN HB.out _) _⟩
  · have HE : Hid (p = q) := hpq
    have hp1 : ¬ p < q := by omega
    have hq1 : ¬ q < p := by omega
    clear hpq
    have d1 : decide (p < q) = false := decide_eq_false hp1
    have d2 : decide (q < p) = false := decide_eq_false hq1
    have d3 : (p != q) = false := by simpa using HE.out
    have c1 := less13 w.heap.size 0 n n i j p q W2 hi0 hi hj0 hj hx0 hy0
    have c2 := fun k => less13 w.heap.size 0 n n j i q p (W2.drewN k) hj0 hj hi0 hi (by simpa using hy) (by simpa using hx)
    rw [d1] at c1
    simp only [d2] at c2
    have C1 : Hid _ := c1
    have C2 : Hid _ := c2
    clear c1 c2 hx0 hy0
    go_enter Try.func4, Try.ntmps4
    go_wp2_with (go_at_call 12; refine (bytes12_yes _ _ _ _ _ _ h3).mono ?_; rintro e w' ⟨rfl, rfl⟩)
    refine Calls.mono C1.out ?_
    rintro e w' ⟨rfl, k, rfl⟩
    go_wp2_with fail
    refine Calls.mono (C2.out k) ?_
    rintro e w' ⟨rfl, k2, rfl⟩
    go_wp2_with fail
    go_quiet (fail)
    go_wp2_with fail
    go_ret
    exact ⟨rfl, below_drewN (below_drewN HB.out _) _⟩
  · have hqp : ¬ p < q := by omega
    have d1 : decide (p < q) = false := decide_eq_false hqp
    have d2 : decide (q < p) = true := decide_eq_true hpq
    have d3 : (p != q) = true := by simp; omega
    have c1 := less13 w.heap.size 0 n n i j p q W2 hi0 hi hj0 hj hx0 hy0
    have c2 := fun k => less13 w.heap.size 0 n n j i q p (W2.drewN k) hj0 hj hi0 hi (by simpa using hy) (by simpa using hx)
    rw [d1] at c1
    simp only [d2] at c2
    have C1 : Hid _ := c1
    have C2 : Hid _ := c2
    clear c1 c2 hx0 hy0
    go_enter Try.func4, Try.ntmps4
    go_wp2_with (go_at_call 12; refine (bytes12_yes _ _ _ _ _ _ h3).mono ?_; rintro e w' ⟨rfl, rfl⟩)
    refine Calls.mono C1.out ?_
    rintro e w' ⟨rfl, k, rfl⟩
    go_wp2_with fail
    refine Calls.mono (C2.out k) ?_
    rintro e w' ⟨rfl, k2, rfl⟩
    go_wp2_with fail
    go_quiet (fail)
    go_wp2_with fail
    go_ret
    exact ⟨rfl, below_drewN (below_drewN HB.out _) _⟩

theorem tri_any (a : Option Addr) (n c : Nat) (zs : List Int) (i j : Int) (w : World)
    (hr : (a = none ∧ n = 0 ∧ c = 0 ∧ zs = []) ∨ ∃ x, a = some x ∧ n ≤ c ∧ c ≤ maxLen ∧ zs.length = c ∧ (∀ i, i < zs.length → w.cell? (x.add i) = some (.int .i64 (zs.getD i 0))) ∧ ∀ n ∈ zs, (Lit.int .i64 n).wf = true) :
    Calls Try.prog 4 #[.slice a n c, .int .i64 i, .int .i64 j] w fun e w' => e = .returned (.bool true) ∧ Below w.heap.size w w' := by
  by_cases hl : (65536 : Int) < (n : Int)
  · refine (tri_long a n c i j w hl).mono ?_
    rintro e w' ⟨rfl, rfl⟩
    exact ⟨rfl, Below.refl _ _⟩
  by_cases ho : i < 0 ∨ (n : Int) ≤ i ∨ j < 0 ∨ (n : Int) ≤ j
  · refine (tri_out a n c i j w (by omega) ho).mono ?_
    rintro e w' ⟨rfl, rfl⟩
    exact ⟨rfl, Below.refl _ _⟩
  · rcases hr with ⟨_, rfl, _, _⟩ | ⟨x, rfl, hnc, _, hz, hcell, _⟩
    · exfalso; omega
    · exact tri_in x n c zs i j w (by omega) (by omega) hcell (by omega) (by omega) (by omega) (by omega)

end Go.Proofs.Qxb6613264a.Heap
