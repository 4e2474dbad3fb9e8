/-
  (*bytes.Buffer).grow (40) where there is no room: the new row is a new block.
-/
import Derived.Test.Qxb6613323aDoorDoC
namespace Go.Proofs.Qxb6613323aDoor.Do
open Go.ChangeShapes Go.WideShapes Go.ChangeAt Go.RowKit

theorem eql_some (x : Addr) (n c : Nat) (w : World) : (binOp .eql 22 (.slice (some x) n c) (.slice none 0 0)).run Tryd.prog w = .ok (.bool false) w := by
  simpa using Lib.run_eql_slice_nil (P := Tryd.prog) w 22 5 (some x) n c 0 0 Tryd.underlying22
theorem eql_none (n c : Nat) (w : World) : (binOp .eql 22 (.slice none n c) (.slice none 0 0)).run Tryd.prog w = .ok (.bool true) w := by
  simpa using Lib.run_eql_slice_nil (P := Tryd.prog) w 22 5 none n c 0 0 Tryd.underlying22

/-- what grow leaves: the struct leads to a new row of room enough, whose first l cells are 'old'. -/
def Grew (sb : Nat) (fs : Value) (l n : Nat) (old : List Value) (w w' : World) : Prop :=
  ∃ g cap cur lr, Bf w' sb (.slice (some ⟨g, 0, none⟩) (l + n) cap) lr fs ∧ w'.heap[g]? = some (.cells cur 5 (0, 0)) ∧ cur.size = cap ∧ l + n ≤ cap ∧ cap ≤ maxLen ∧ cur.toList.take l = old ∧ w.heap.size ≤ g ∧ Mv sb none w w'

theorem push_new (w : World) (o : Obj) : (w.alloc o).heap[w.heap.size]? = some o := by
  show (w.heap.push o)[w.heap.size]? = _
  simp

theorem grew_small {sb n : Nat} {lr : Int} {fs v : Value} {w W0 : World} {M : Array Value} (h0 : Bf W0 sb v lr fs) (M0 : Mv sb none w W0) (hMs : M.size = 64) (h64 : n ≤ 64) :
    Grew sb fs 0 n [] w ((W0.setCell ⟨sb, 0, none⟩ (.slice (some ⟨W0.heap.size, 0, none⟩) n 64)).alloc (.cells M 5)) := by
  have hz : (W0.setCell ⟨sb, 0, none⟩ (.slice (some ⟨W0.heap.size, 0, none⟩) n 64)).heap.size = W0.heap.size := by simp [World.setCell]
  have hp := push_new (W0.setCell ⟨sb, 0, none⟩ (.slice (some ⟨W0.heap.size, 0, none⟩) n 64)) (.cells M 5)
  rw [hz] at hp
  refine ⟨W0.heap.size, 64, M, lr, ?_, hp, hMs, by omega, by unfold maxLen; omega, by simp, M0.size, (M0.setCell 0 _).alloc _⟩
  rw [Nat.zero_add]
  exact (Below.heap_alloc _ _ _ (by rw [hz]; exact h0.lt)).trans (h0.set0 _)

theorem grew_set {sb l n g cap : Nat} {lr : Int} {fs v : Value} {old : List Value} {w w2 : World} {cells : Array Value} (x : Value) (hb : Bf w2 sb v lr fs) (hN : w2.heap[g]? = some (.cells cells 5 (0, 0))) (hcs : cells.size = cap) (hln : l + n ≤ cap) (hcm : cap ≤ maxLen)
    (htk : cells.toList.take l = old) (hge : w.heap.size ≤ g) (hne : g ≠ sb) (hM : Mv sb none w w2) :
    Grew sb fs l n old w (((w2.setCell ⟨sb, 0, none⟩ x).setCell ⟨sb, 1, none⟩ (.int .i64 0)).setCell ⟨sb, 0, none⟩ (.slice (some ⟨g, 0, none⟩) (l + n) cap)) := by
  refine ⟨g, cap, cells, lr, ((hb.set0 x).set1).set0 _, ?_, hcs, hln, hcm, htk, hge, ((hM.setCell _ _).setCell _ _).setCell _ _⟩
  rw [Below.heap_setCell _ _ _ _ hne, Below.heap_setCell _ _ _ _ hne, Below.heap_setCell _ _ _ _ hne]
  exact hN

set_option maxHeartbeats 1000000 in
theorem grow_small (sb n : Nat) (lr : Int) (fs : Value) (w : World) (h : Bf w sb (.slice none 0 0) lr fs) (hn : 1 ≤ n) (h64 : n ≤ 64) :
    Calls Tryd.prog 27 #[.pointer (some ⟨sb, 0, none⟩), .int .i64 n] w fun e w' => e = .returned (.int .i64 0) ∧ Grew sb fs 0 n [] w w' := by
  obtain ⟨i0, hi, hz0, hz1, hz2⟩ := info5_parts
  obtain ⟨M, hM⟩ : ∃ M, M = madeCells (Value.int .u8 0).cells ((64 : Int).toNat * i0.size) := ⟨_, rfl⟩
  have hMs : M.size = 64 := by rw [hM, size_madeCells, hz1]; rfl
  have hmk : ∀ W : World, (Instr.makeSlice 22 (.int .i64 (n : Int)) (.int .i64 64)).run Tryd.prog W = .ok (.slice (some ⟨W.heap.size, 0, none⟩) n 64) (W.alloc (.cells M 5)) := fun W => by
    have h := run_make (P := Tryd.prog) W 22 5 i0 (.int .u8 0) Tryd.underlying22 hi hz0 .i64 .i64 (n : Int) 64 (by omega) (by omega) (by rw [hz2]; decide) (by decide)
    rw [← hM] at h
    simpa using h
  clear hM
  have hnil := eql_none 0 0
  have H : Hid (Bf w sb (.slice none 0 0) lr fs) := h
  go_enter Tryd.func27, Tryd.ntmps27
  go_wp2_with fail
  refine Calls.mono (len41 sb none 0 0 lr fs _ H.out (by omega)) ?_
  rintro e W0 ⟨rfl, k, hW0⟩
  have h0 : Bf W0 sb (.slice none 0 0) lr fs := by rw [hW0]; exact H.out
  have M0 : Hid (Mv sb none w W0) := by rw [hW0]; exact (Mv.refl _ _ _).drewN k
  have H0 : Hid (Bf W0 sb (.slice none 0 0) lr fs) := h0
  have hlt := h0.lt
  have c0 := h0.c0
  have c1 := h0.c1
  have f0 := h0.free 0
  have f1 := h0.free 1
  have c0a : ∀ o, (W0.alloc o).cell? ⟨sb, 0, none⟩ = some (.slice none 0 0) := fun o => (World.cell?_of_block (a := ⟨sb, 0, none⟩) (Below.heap_alloc W0 o sb hlt)).trans c0
  have f0a : ∀ o, (W0.alloc o).frozen? ⟨sb, 0, none⟩ = false := fun o => (World.frozen?_of_block (a := ⟨sb, 0, none⟩) (Below.heap_alloc W0 o sb hlt)).trans f0
  clear h0 h hW0
  go_wp2_with fail
  refine Calls.mono (try_none sb none 0 0 n lr fs _ H0.out (Nat.le_refl _) (Nat.zero_le _) (by omega)) ?_
  rintro e w' ⟨rfl, rfl⟩
  go_wp2_with fail
  go_ret
  exact ⟨rfl, grew_small H0.out M0.out hMs h64⟩

set_option maxHeartbeats 2000000 in
theorem grow_big (sb n : Nat) (lr : Int) (fs : Value) (w : World) (h : Bf w sb (.slice none 0 0) lr fs) (h64 : 64 < n) (hlim : n ≤ 140737488355328) :
    Calls Tryd.prog 27 #[.pointer (some ⟨sb, 0, none⟩), .int .i64 n] w fun e w' => e = .returned (.int .i64 0) ∧ Grew sb fs 0 n [] w w' := by
  have hnil := eql_none 0 0
  have H : Hid (Bf w sb (.slice none 0 0) lr fs) := h
  go_enter Tryd.func27, Tryd.ntmps27
  go_wp2_with fail
  refine Calls.mono (len41 sb none 0 0 lr fs _ H.out (by omega)) ?_
  rintro e W0 ⟨rfl, k, hW0⟩
  have h0 : Bf W0 sb (.slice none 0 0) lr fs := by rw [hW0]; exact H.out
  have M0 : Hid (Mv sb none w W0) := by rw [hW0]; exact (Mv.refl _ _ _).drewN k
  have H0 : Hid (Bf W0 sb (.slice none 0 0) lr fs) := h0
  have hlt := h0.lt
  have c0 := h0.c0
  have c1 := h0.c1
  have f0 := h0.free 0
  have f1 := h0.free 1
  clear h0 h hW0
  go_wp2_with fail
  refine Calls.mono (try_none sb none 0 0 n lr fs _ H0.out (Nat.le_refl _) (Nat.zero_le _) (by omega)) ?_
  rintro e w' ⟨rfl, rfl⟩
  have hwn : IntKind.i64.wrap (n : Int) = n := by rw [IntKind.wrap_i64]; omega
  go_wp2_with fail
  go_region_with (
      go_at_call 29
      refine (Tryd.bytes_growSlice_nil n _ (by omega) hlim).mono ?_
      rintro e w2 ⟨cap2, cells, rfl, hN, hcsz, hcap2, hcm2, hbel⟩
      have hbk2 : Bf w2 sb (.slice none 0 0) lr fs := (hbel.block sb hlt).trans H0.out
      have d0 := hbk2.c0
      have d1 := hbk2.c1
      have e0 := hbk2.free 0
      have e1 := hbk2.free 1)
  all_goals (
    go_wp2
    go_ret
    have hfin := grew_set (l := 0) (n := n) (.slice (some ⟨W0.heap.size, 0, none⟩) 0 cap2) hbk2 hN hcsz (by omega) hcm2 (old := []) (by simp) M0.out.size (by show W0.heap.size ≠ sb; omega) (M0.out.drew.trans (Mv.below hbel))
    rw [Nat.zero_add] at hfin
    exact ⟨rfl, hfin⟩)

end Go.Proofs.Qxb6613323aDoor.Do
