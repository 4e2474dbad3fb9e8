/-
  The failing reader: errors.New (22), iotest.ErrReader (21), io.MultiReader (20), errReader.Read (52), multiReader.Read (51).
-/
import Derived.Test.Qxb6613323aDoorDoI
import Derived.LaidEql
namespace Go.Proofs.Qxb6613323aDoor.Do
open Go.ChangeShapes Go.WideShapes Go.ChangeAt Go.RowKit

set_option maxHeartbeats 400000 in
theorem newErr22 (s : ByteArray) (w : World) :
    Calls Tryd.prog 22 #[.string s] w fun e w' => e = .returned (.iface 73 (.pointer (some ⟨w.heap.size, 0, none⟩))) ∧ w.alloc (.cells #[.string s] 75) = w' := by
  go_enter Tryd.func22, Tryd.ntmps22
  go_wp2
  go_ret
  exact ⟨rfl, rfl⟩

set_option maxHeartbeats 400000 in
theorem errReader21 (x : Addr) (w : World) :
    Calls Tryd.prog 21 #[.iface 73 (.pointer (some x))] w fun e w' => e = .returned (.iface 70 (.pointer (some ⟨w.heap.size, 0, none⟩))) ∧ w.alloc (.cells #[.iface 73 (.pointer (some x))] 72) = w' := by
  go_enter Tryd.func21, Tryd.ntmps21
  go_wp2
  go_ret
  exact ⟨rfl, rfl⟩

set_option maxHeartbeats 400000 in
theorem errRead52 (eb : Nat) (X p : Value) (w : World) (h : w.cell? ⟨eb, 0, none⟩ = some X) :
    Calls Tryd.prog 52 #[.pointer (some ⟨eb, 0, none⟩), p] w fun e w' => e = .returned (.tuple #[.int .i64 0, X]) ∧ ∃ k, w' = w.drewN k := by
  go_enter Tryd.func52, Tryd.ntmps52
  go_wp2_with fail
  go_quiet (fail)
  go_wp2_with fail
  go_ret2
  exact ⟨rfl, _, rfl⟩

theorem info54 : (Tryd.prog.info? 54).map (fun i => (i.zero, i.size, i.bytes)) = some (some .nilIface, 1, 16) := by kernel_rfl

/-- 'make([]Reader, 2); copy(r, readers)'. -/
theorem readers_made (w : World) (ab : Nat) (v0 v1 : Value) (h : w.heap[ab]? = some (.cells #[v0, v1] 54 (0, 0))) (h0 : v0.oneCell' = true) (h1 : v1.oneCell' = true) :
    ∃ W1 W2, (Instr.makeSlice 66 (.int .i64 2) (.int .i64 2)).run Tryd.prog w = .ok (.slice (some ⟨w.heap.size, 0, none⟩) 2 2) W1 ∧
      (∀ ty, (Builtin.copy_ #[66, 66] ty #[.slice (some ⟨w.heap.size, 0, none⟩) 2 2, .slice (some ⟨ab, 0, none⟩) 2 2]).run Tryd.prog W1 = .ok (goInt 2) W2) ∧
      W2.heap[w.heap.size]? = some (.cells #[v0, v1] 54 (0, 0)) ∧ W2.heap.size = w.heap.size + 1 ∧ Below w.heap.size w W2 := by
  have h3 := info54
  cases hi : Tryd.prog.info? 54 with
  | none => rw [hi] at h3; cases h3
  | some i0 =>
    rw [hi] at h3
    simp only [Option.map_some, Option.some.injEq, Prod.mk.injEq] at h3
    obtain ⟨hz, hsz, hby⟩ := h3
    have hr := run_make (P := Tryd.prog) w 66 54 i0 _ Tryd.underlying66 hi hz .i64 .i64 2 2 (by omega) (Int.le_refl _) (by rw [hby]; omega) (by omega)
    simp only [show (2 : Int).toNat = 2 from rfl, hsz, Nat.mul_one] at hr
    have hg : (w.alloc (.cells (madeCells Value.nilIface.cells 2) 54)).heap[w.heap.size]? = some (.cells (madeCells Value.nilIface.cells 2) 54 (0, 0)) := heap_alloc_new w _
    have hlt : ab < w.heap.size := (Array.getElem?_eq_some_iff.1 h).1
    have hab : (w.alloc (.cells (madeCells Value.nilIface.cells 2) 54)).heap[ab]? = some (.cells #[v0, v1] 54 (0, 0)) := (Below.heap_alloc _ _ _ hlt).trans h
    have hcp := fun ty => run_copy_row (P := Tryd.prog) (w.alloc (.cells (madeCells Value.nilIface.cells 2) 54)) 66 66 ty 54 w.heap.size 0 2 2 ⟨ab, 0, none⟩ 2 2 _ 54 [v0, v1] Tryd.underlying66 (by rw [hi]; simp [hsz]) hg rfl
      (by
        intro j v hj
        rw [Addr.add_lit, Nat.zero_add, World.cell?, hab]
        simpa using hj)
      (by simp [size_madeCells]) (by
        intro v hv
        simp only [List.mem_cons, List.not_mem_nil, or_false] at hv
        rcases hv with rfl | rfl
        · exact h0
        · exact h1)
    refine ⟨_, _, hr, hcp, ?_, ?_, ?_⟩
    · rw [setRow_heap _ _ _ _ _ _ hg]
      have hdrop : (madeCells Value.nilIface.cells 2).toList.drop (0 + [v0, v1].length) = [] := by
        apply List.drop_eq_nil_of_le; simp [size_madeCells]
      rw [hdrop]
      simp
    · simp [World.setRow]
    · exact below_setRow ((Below.refl _ _).alloc (Nat.le_refl _) _) (Nat.le_refl _) _

set_option maxHeartbeats 1000000 in
theorem multi20 (w : World) (ab : Nat) (v0 v1 : Value) (h : w.heap[ab]? = some (.cells #[v0, v1] 54 (0, 0))) (h0 : v0.oneCell' = true) (h1 : v1.oneCell' = true) :
    Calls Tryd.prog 20 #[.slice (some ⟨ab, 0, none⟩) 2 2] w fun e w' => e = .returned (.iface 67 (.pointer (some ⟨w.heap.size + 1, 0, none⟩))) ∧
      w'.heap[w.heap.size]? = some (.cells #[v0, v1] 54 (0, 0)) ∧ w'.heap[w.heap.size + 1]? = some (.cells #[.slice (some ⟨w.heap.size, 0, none⟩) 2 2] 69 (0, 0)) ∧ w'.heap.size = w.heap.size + 2 ∧ Below w.heap.size w w' := by
  obtain ⟨W1, W2, hmk, hcp, hrow, hsz, hbel⟩ := readers_made w ab v0 v1 h h0 h1
  have FIN : Hid ((W2.alloc (.cells #[.slice (some ⟨w.heap.size, 0, none⟩) 2 2] 69)).heap[w.heap.size]? = some (.cells #[v0, v1] 54 (0, 0)) ∧ (W2.alloc (.cells #[.slice (some ⟨w.heap.size, 0, none⟩) 2 2] 69)).heap[w.heap.size + 1]? = some (.cells #[.slice (some ⟨w.heap.size, 0, none⟩) 2 2] 69 (0, 0)) ∧ (W2.alloc (.cells #[.slice (some ⟨w.heap.size, 0, none⟩) 2 2] 69)).heap.size = w.heap.size + 2 ∧ Below w.heap.size w (W2.alloc (.cells #[.slice (some ⟨w.heap.size, 0, none⟩) 2 2] 69))) := by
    refine ⟨(Below.heap_alloc _ _ _ (by omega)).trans hrow, ?_, ?_, hbel.alloc (by omega) _⟩
    · rw [← hsz]; exact heap_alloc_new W2 _
    · show (W2.heap.push _).size = _
      simp [hsz]
  clear hrow hbel h h0 h1
  go_enter Tryd.func20, Tryd.ntmps20
  go_wp2
  go_ret
  exact ⟨rfl, FIN.out⟩

end Go.Proofs.Qxb6613323aDoor.Do
