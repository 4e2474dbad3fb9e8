/-
  The walk of FnVertexHeapLessScanFindsLeast (function 5).
-/
import Derived.Test.Qxb6613264aHeap
import Derived.Test.Qxb6613264aScanPlain
namespace Go.Proofs.Qxb6613264a.Heap
open Go.ChangeShapes Go.WideShapes Go.ChangeAt Go.RowKit

theorem scan_long (a : Option Addr) (n c : Nat) (w : World) (h : (65536 : Int) < (n : Int)) :
    Calls Try.prog 5 #[.slice a n c] w fun e w' => e = .returned (.bool true) ∧ w' = w := by
  by_cases h2 : (1048576 : Int) < (n : Int)
  · go_enter Try.func5, Try.ntmps5
    go_wp2_with (go_at_call 14; refine (bytes14_no _ _ _ _ h2).mono ?_; rintro e w' ⟨rfl, rfl⟩)
    go_ret
    exact ⟨rfl, rfl⟩
  · have h3 : (n : Int) ≤ 1048576 := by omega
    go_enter Try.func5, Try.ntmps5
    go_wp2_with (go_at_call 14; refine (bytes14_yes _ _ _ _ h3).mono ?_; rintro e w' ⟨rfl, rfl⟩)
    go_ret
    exact ⟨rfl, rfl⟩

theorem scan_none (a : Option Addr) (c : Nat) (w : World) :
    Calls Try.prog 5 #[.slice a 0 c] w fun e w' => e = .returned (.bool true) ∧ w' = w := by
  go_enter Try.func5, Try.ntmps5
  go_wp2_with (go_at_call 14; refine (bytes14_yes _ _ _ _ (by omega)).mono ?_; rintro e w' ⟨rfl, rfl⟩)
  go_ret
  exact ⟨rfl, rfl⟩

theorem lessN (b n c k m : Nat) (x y : Int) (w : World) (hk : k < n) (hm : m < n)
    (hx : w.cell? ⟨b, k, none⟩ = some (.int .i64 x)) (hy : w.cell? ⟨b, m, none⟩ = some (.int .i64 y)) :
    Calls Try.prog 13 #[.slice (some ⟨b, 0, none⟩) n c, .int .i64 (k : Int), .int .i64 (m : Int)] w fun e w' => e = .returned (.bool (decide (x < y))) ∧ ∃ k, w' = w.drewN k :=
  less13 b 0 n c k m x y w (by omega) (by omega) (by omega) (by omega) (by simpa using hx) (by simpa using hy)

theorem bytes14_y2 (a : Option Addr) (n c : Nat) (w : World) (h : (n : Int) ≤ 1048576) :
    Calls Try.prog 14 #[.slice a n c] w fun e w' => e = .returned (.bool true) ∧ w = w' :=
  (bytes14_yes a n c w h).mono fun _ _ ⟨h1, h2⟩ => ⟨h1, h2.symm⟩

set_option maxHeartbeats 400000 in
theorem scan_in (x : Addr) (n c : Nat) (zs : List Int) (w : World) (h : (n : Int) ≤ 65536) (h1 : 1 ≤ n) (hnz : n ≤ zs.length)
    (hcell : ∀ i, i < zs.length → w.cell? (x.add i) = some (.int .i64 (zs.getD i 0))) :
    Calls Try.prog 5 #[.slice (some x) n c] w fun e w' => e = .returned (.bool true) ∧ Below w.heap.size w w' := by
  have h3 : (n : Int) ≤ 1048576 := by omega
  have h0 : ((n : Int) == 0) = false := by simp; omega
  obtain ⟨W1, W2, hmk, hcp, hcc, hB⟩ := copied w x n c zs (by omega) hnz hcell
  have HC : Hid (∀ i, i < n → W2.cell? ⟨w.heap.size, i, none⟩ = some (.int .i64 (fz zs i))) := hcc
  have HB : Hid (Below w.heap.size w W2) := hB
  clear hB hnz hcell hcc
  have hne : ∀ w : World, (binOp .neq 33 (.slice (some x) n c) (.slice none 0 0)).run Try.prog w = .ok (.bool true) w := fun w => by
    simpa using run_neq_slice_nil_any (P := Try.prog) w 33 3 (some x) n c 0 0 Try.underlying33
  go_enter Try.func5, Try.ntmps5
  go_wp2_with (go_at_call 14; refine (bytes14_y2 _ _ _ _ h3).mono ?_; rintro e w' ⟨rfl, rfl⟩)
  go_loopw [4, 5] (fun m i wr => ∃ k q : Nat, 1 ≤ k ∧ k ≤ n ∧ i = .int .i64 k ∧ m = .int .i64 (am zs k : Nat) ∧ wr = W2.drewN q) (fun _ i _ => n - (intOf i).toNat)
  case atStart => exact ⟨1, 0, Nat.le_refl _, h1, rfl, by rw [am_one]; rfl, rfl⟩
  case round =>
    obtain ⟨k, q, hk1, hk, rfl, rfl, rfl⟩ := hrel
    have hb := am_bound zs k hk1
    by_cases hlt : (k : Int) < (n : Int)
    · have hx := HC.out k (by omega)
      have hy := HC.out (am zs k) (by omega)
      have CL : Hid _ := lessN w.heap.size n n k (am zs k) _ _ (W2.drewN q) (by omega) (by omega) (by simpa using hx) (by simpa using hy)
      clear hx hy
      by_cases hc : fz zs k < fz zs (am zs k)
      · have e1 : Hid (am zs (k + 1) = k) := am_lt hc
        have d1 : decide (fz zs k < fz zs (am zs k)) = true := decide_eq_true hc
        go_wp2_with fail
        refine Calls.mono CL.out ?_
        rintro e w' ⟨rfl, q2, rfl⟩
        go_wp2_with fail
        go_roundw
        case rel => exact ⟨k + 1, q + q2, by omega, by omega, by go_num, by rw [e1.out], by simp⟩
        case measure => simp [intOf]; omega
      · have e1 : Hid (am zs (k + 1) = am zs k) := am_ge hc
        have d1 : decide (fz zs k < fz zs (am zs k)) = false := decide_eq_false hc
        go_wp2_with fail
        refine Calls.mono CL.out ?_
        rintro e w' ⟨rfl, q2, rfl⟩
        go_wp2_with fail
        go_roundw
        case rel => exact ⟨k + 1, q + q2, by omega, by omega, by go_num, by rw [e1.out], by simp⟩
        case measure => simp [intOf]; omega
    · obtain rfl : k = n := by omega
      go_wp2_with fail
      go_loopw [6] (fun i wr => ∃ j q : Nat, j ≤ k ∧ i = .int .i64 j ∧ wr = W2.drewN q) (fun i _ => k - (intOf i).toNat)
      case atStart => exact ⟨0, q, Nat.zero_le _, rfl, rfl⟩
      case round =>
        obtain ⟨j, q3, hj, rfl, rfl⟩ := hrel
        by_cases hjk : (j : Int) < (k : Int)
        · have hx := HC.out j (by omega)
          have hy := HC.out (am zs k) (by omega)
          have l1 := am_least zs k j (by omega)
          have l2 : ¬ fz zs j < fz zs (am zs k) := by omega
          have d1 : decide (fz zs j < fz zs (am zs k)) = false := decide_eq_false l2
          have hbi : (am zs k : Int) < (k : Int) := by omega
          by_cases hjm : (j : Int) < (am zs k : Int)
          · have l3 := am_first zs k j (by omega)
            have d2 : (fz zs j == fz zs (am zs k)) = false := by simp; omega
            go_wp2_with fail
            go_quiet (fail)
            go_wp2_with fail
            go_quiet (fail)
            go_wp2_with fail
            go_roundw
            case rel => exact ⟨j + 1, _, by omega, by go_num, rfl⟩
            case measure => simp [intOf]; omega
          · have d2 : decide (j < am zs k) = false := decide_eq_false (by omega)
            have d3 : decide ((j : Int) < (am zs k : Int)) = false := decide_eq_false hjm
            go_wp2_with fail
            go_quiet (fail)
            go_wp2_with fail
            go_quiet (fail)
            go_wp2_with fail
            go_roundw
            case rel => exact ⟨j + 1, _, by omega, by go_num, rfl⟩
            case measure => simp [intOf]; omega
        · go_wp2_with fail
          go_ret
          exact ⟨rfl, below_drewN HB.out _⟩

theorem scan_any (a : Option Addr) (n c : Nat) (zs : List Int) (w : World)
    (hr : (a = none ∧ n = 0 ∧ c = 0 ∧ zs = []) ∨ ∃ x, a = some x ∧ n ≤ c ∧ c ≤ maxLen ∧ zs.length = c ∧ (∀ i, i < zs.length → w.cell? (x.add i) = some (.int .i64 (zs.getD i 0))) ∧ ∀ n ∈ zs, (Lit.int .i64 n).wf = true) :
    Calls Try.prog 5 #[.slice a n c] w fun e w' => e = .returned (.bool true) ∧ Below w.heap.size w w' := by
  by_cases hl : (65536 : Int) < (n : Int)
  · refine (scan_long a n c w hl).mono ?_
    rintro e w' ⟨rfl, rfl⟩
    exact ⟨rfl, Below.refl _ _⟩
  by_cases h0 : n = 0
  · subst h0
    refine (scan_none a c w).mono ?_
    rintro e w' ⟨rfl, rfl⟩
    exact ⟨rfl, Below.refl _ _⟩
  · rcases hr with ⟨_, rfl, _, _⟩ | ⟨x, rfl, hnc, _, hz, hcell, _⟩
    · exfalso; omega
    · exact scan_in x n c zs w (by omega) (by omega) (by omega) hcell

end Go.Proofs.Qxb6613264a.Heap
