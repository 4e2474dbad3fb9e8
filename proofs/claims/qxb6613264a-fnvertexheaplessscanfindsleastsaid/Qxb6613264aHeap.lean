/-
  Shared contracts of the two heap laws: the two length tests (functions 12 and 14), (vertexHeap).Less (18) and its wrapper (13).
-/
import Derived.Test.Qxb6613264aRows
import Derived.WalkKit
import Derived.ProofKit
import Derived.OpenShut
import Derived.ShutString
import Derived.ChangeOld
import Derived.Below
import Derived.Deep.QuietTactic
import Derived.BigQuiet
import Derived.Laws.CopyOwn
import Derived.Laws.MakeOwn
import Derived.WalkSpells
import Derived.Outline
namespace Go.Proofs.Qxb6613264a.Heap
open Go.ChangeShapes Go.WideShapes Go.ChangeAt Go.RowKit

theorem below_drewN {B : Nat} {a w : World} (h : Below B a w) (k : Nat) : Below B a (w.drewN k) := h.trans ⟨rfl, rfl, rfl, Nat.le_refl _, fun _ _ => rfl⟩

set_option maxHeartbeats 400000 in
theorem bytes12_yes (a : Option Addr) (n c : Nat) (i j : Int) (w : World) (h : (n : Int) ≤ 1048576) :
    Calls Try.prog 12 #[.slice a n c, .int .i64 i, .int .i64 j] w fun e w' => e = .returned (.bool true) ∧ w' = w := by
  have h2 : ¬ (1048576 : Int) < (n : Int) := by omega
  go_enter Try.func12, Try.ntmps12
  go_wp2
  go_ret
  exact ⟨rfl, rfl⟩

set_option maxHeartbeats 400000 in
theorem bytes12_no (a : Option Addr) (n c : Nat) (i j : Int) (w : World) (h : (1048576 : Int) < (n : Int)) :
    Calls Try.prog 12 #[.slice a n c, .int .i64 i, .int .i64 j] w fun e w' => e = .returned (.bool false) ∧ w' = w := by
  go_enter Try.func12, Try.ntmps12
  go_wp2
  go_ret
  exact ⟨rfl, rfl⟩

set_option maxHeartbeats 400000 in
theorem bytes14_yes (a : Option Addr) (n c : Nat) (w : World) (h : (n : Int) ≤ 1048576) :
    Calls Try.prog 14 #[.slice a n c] w fun e w' => e = .returned (.bool true) ∧ w' = w := by
  have h2 : ¬ (1048576 : Int) < (n : Int) := by omega
  go_enter Try.func14, Try.ntmps14
  go_wp2
  go_ret
  exact ⟨rfl, rfl⟩

set_option maxHeartbeats 400000 in
theorem bytes14_no (a : Option Addr) (n c : Nat) (w : World) (h : (1048576 : Int) < (n : Int)) :
    Calls Try.prog 14 #[.slice a n c] w fun e w' => e = .returned (.bool false) ∧ w' = w := by
  go_enter Try.func14, Try.ntmps14
  go_wp2
  go_ret
  exact ⟨rfl, rfl⟩

set_option maxHeartbeats 400000 in
theorem less18 (b o n c : Nat) (i j x y : Int) (w : World) (hi0 : 0 ≤ i) (hi : i < (n : Int)) (hj0 : 0 ≤ j) (hj : j < (n : Int))
    (hx : w.cell? ⟨b, o + i.toNat, none⟩ = some (.int .i64 x)) (hy : w.cell? ⟨b, o + j.toNat, none⟩ = some (.int .i64 y)) :
    Calls Try.prog 18 #[.slice (some ⟨b, o, none⟩) n c, .int .i64 i, .int .i64 j] w fun e w' => e = .returned (.bool (decide (x < y))) ∧ ∃ k, w' = w.drewN k := by
  go_enter Try.func18, Try.ntmps18
  go_wp2
  go_quiet (fail)
  go_wp2
  go_ret
  exact ⟨rfl, _, rfl⟩

set_option maxHeartbeats 400000 in
theorem less13 (b o n c : Nat) (i j x y : Int) (w : World) (hi0 : 0 ≤ i) (hi : i < (n : Int)) (hj0 : 0 ≤ j) (hj : j < (n : Int))
    (hx : w.cell? ⟨b, o + i.toNat, none⟩ = some (.int .i64 x)) (hy : w.cell? ⟨b, o + j.toNat, none⟩ = some (.int .i64 y)) :
    Calls Try.prog 13 #[.slice (some ⟨b, o, none⟩) n c, .int .i64 i, .int .i64 j] w fun e w' => e = .returned (.bool (decide (x < y))) ∧ ∃ k, w' = w.drewN k := by
  go_enter Try.func13, Try.ntmps13
  go_wp2_with (go_at_call 18; refine (less18 b o n c i j x y _ hi0 hi hj0 hj hx hy).mono ?_; rintro e w' ⟨rfl, k, rfl⟩)
  go_ret
  exact ⟨rfl, _, rfl⟩

theorem info3 : (Try.prog.info? 3).map (fun i => (i.zero, i.size, i.bytes)) = some (some (.int .i64 0), 1, 8) := by kernel_rfl

/-- 'zzc := make([]int, len(h)); copy(zzc, h)': the two run equations and what lies in the new row. -/
theorem copied (w : World) (x : Addr) (n c : Nat) (zs : List Int) (hn : n ≤ 65536) (hnz : n ≤ zs.length)
    (hcell : ∀ i, i < zs.length → w.cell? (x.add i) = some (.int .i64 (zs.getD i 0))) :
    ∃ W1 W2, (Instr.makeSlice 33 (.int .i64 (n : Int)) (.int .i64 (n : Int))).run Try.prog w = .ok (.slice (some ⟨w.heap.size, 0, none⟩) n n) W1 ∧
      (∀ ty, (Builtin.copy_ #[33, 33] ty #[.slice (some ⟨w.heap.size, 0, none⟩) n n, .slice (some x) n c]).run Try.prog W1 = .ok (goInt n) W2) ∧
      (∀ i, i < n → W2.cell? ⟨w.heap.size, i, none⟩ = some (.int .i64 (zs.getD i 0))) ∧ Below w.heap.size w W2 := by
  have h3 := info3
  cases hi : Try.prog.info? 3 with
  | none => rw [hi] at h3; cases h3
  | some i0 =>
    rw [hi] at h3
    simp only [Option.map_some, Option.some.injEq, Prod.mk.injEq] at h3
    obtain ⟨hz, hsz, hby⟩ := h3
    have hr := run_make (P := Try.prog) w 33 3 i0 _ Try.underlying33 hi hz .i64 .i64 (n : Int) (n : Int) (by omega) (Int.le_refl _) (by rw [hby]; omega) (by omega)
    simp only [Int.toNat_natCast, hsz, Nat.mul_one] at hr
    have hg : (w.alloc (.cells (madeCells (Value.int IntKind.i64 0).cells n) 3)).heap[w.heap.size]? = some (.cells (madeCells (Value.int IntKind.i64 0).cells n) 3 (0, 0)) := by
      show (w.heap.push _)[w.heap.size]? = _
      simp
    have hlen : ((zs.take n).map (Value.int .i64)).length = n := by simp; omega
    have hcp := fun ty => run_copy_row (P := Try.prog) (w.alloc (.cells (madeCells (Value.int IntKind.i64 0).cells n) 3)) 33 33 ty 3 w.heap.size 0 n n x n c _ 3 ((zs.take n).map (Value.int .i64)) Try.underlying33 (by rw [hi]; simp [hsz]) hg (by rw [hlen]; simp)
      (by
        intro j v hj
        have hjn : j < n := by
          have := (List.getElem?_eq_some_iff.1 hj).1
          omega
        have hc := hcell j (by omega)
        have hlt : (x.add j).block < w.heap.size := by
          by_cases hb : (x.add j).block < w.heap.size
          · exact hb
          · simp [World.cell?, Array.getElem?_eq_none (by omega : w.heap.size ≤ (x.add j).block)] at hc
        rw [World.cell?_of_block (w := w) (Below.heap_alloc _ _ _ hlt), hc]
        simp [List.getElem?_map, hjn] at hj
        obtain ⟨z, hz1, hz2⟩ := hj
        simp [hz1, hz2])
      (by rw [hlen, size_madeCells]; omega) (by
        intro v hv
        obtain ⟨z, _, rfl⟩ := List.mem_map.1 hv
        rfl)
    rw [hlen] at hcp
    refine ⟨_, _, hr, hcp, ?_, ?_⟩
    · intro i hin
      rw [World.cell?, setRow_heap _ _ _ _ _ _ hg]
      have hdrop : (madeCells (Value.int IntKind.i64 0).cells n).toList.drop (0 + n) = [] := by
        apply List.drop_eq_nil_of_le; simp [size_madeCells]
      rw [hdrop]
      have hz : i < zs.length := by omega
      simp [hin, hz]
    · exact below_setRow ((Below.refl _ _).alloc (Nat.le_refl _) _) (Nat.le_refl _) _

end Go.Proofs.Qxb6613264a.Heap
