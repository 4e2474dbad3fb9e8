/-
  (*bytes.Buffer).grow (40) where the buffer holds a row without room.
-/
import Derived.Test.Qxb6613323aDoorDoD
namespace Go.Proofs.Qxb6613323aDoor.Do
open Go.ChangeShapes Go.WideShapes Go.ChangeAt Go.RowKit

set_option maxHeartbeats 2000000 in
theorem grow_row0 (sb g cap n : Nat) (lr : Int) (fs : Value) (cur : Array Value) (w : World) (h : Bf w sb (.slice (some ⟨g, 0, none⟩) 0 cap) lr fs) (hg : w.heap[g]? = some (.cells cur 5 (0, 0))) (hcs : cur.size = cap) (hlc : 0 ≤ cap) (hcm : cap ≤ 140737488355328)
    (h1 : ∀ v ∈ cur.toList.take 0, v.oneCell' = true) (hn : 1 ≤ n) (hroom : cap - 0 < n) (hlim : 0 + n ≤ 140737488355328) :
    Calls Tryd.prog 27 #[.pointer (some ⟨sb, 0, none⟩), .int .i64 n] w fun e w' => e = .returned (.int .i64 0) ∧ Grew sb fs 0 n (cur.toList.take 0) w w' := by
  have hnil := eql_some ⟨g, 0, none⟩ 0 cap
  have H : Hid (Bf w sb (.slice (some ⟨g, 0, none⟩) 0 cap) lr fs) := h
  have HG : Hid (w.heap[g]? = some (.cells cur 5 (0, 0))) := hg
  clear hg
  go_enter Tryd.func27, Tryd.ntmps27
  go_wp2_with fail
  refine Calls.mono (len41 sb (some ⟨g, 0, none⟩) 0 cap lr fs _ H.out (by omega)) ?_
  rintro e W0 ⟨rfl, k, hW0⟩
  have h0 : Bf W0 sb (.slice (some ⟨g, 0, none⟩) 0 cap) lr fs := by rw [hW0]; exact H.out
  have HG0 : Hid (W0.heap[g]? = some (.cells cur 5 (0, 0))) := by rw [hW0]; exact HG.out
  have M0 : Hid (Mv sb none w W0) := by rw [hW0]; exact (Mv.refl _ _ _).drewN k
  have H0 : Hid (Bf W0 sb (.slice (some ⟨g, 0, none⟩) 0 cap) lr fs) := h0
  have hlt := h0.lt
  have c0 := h0.c0
  have c1 := h0.c1
  have f0 := h0.free 0
  have f1 := h0.free 1
  clear h0 h hW0
  go_wp2_with fail
  refine Calls.mono (try_none sb (some ⟨g, 0, none⟩) 0 cap n lr fs _ H0.out hlc (by unfold maxLen; omega) hroom) ?_
  rintro e w' ⟨rfl, rfl⟩
  have hwn : IntKind.i64.wrap (n : Int) = n := by rw [IntKind.wrap_i64]; omega
  go_wp2_with fail
  go_region_with (
      go_at_call 29
      refine (Tryd.bytes_growSlice_row g 0 cap n cur _ ?_ hcs hlc hn hlim hcm h1).mono ?_
      exact HG0.out
      rintro e w2 ⟨cap2, cells, rfl, hN, hcsz, htk, hcap2, hcm2, hbel⟩
      have hbk2 : Bf w2 sb (.slice (some ⟨g, 0, none⟩) 0 cap) lr fs := (hbel.block sb hlt).trans H0.out
      have d0 := hbk2.c0
      have d1 := hbk2.c1
      have e0 := hbk2.free 0
      have e1 := hbk2.free 1)
  all_goals (
    go_wp2
    go_ret
    have hfin := grew_set (l := 0) (n := n) (.slice (some ⟨W0.heap.size, 0, none⟩) 0 cap2) hbk2 hN hcsz hcap2 hcm2 htk M0.out.size (by show W0.heap.size ≠ sb; omega) (M0.out.drew.trans (Mv.below hbel))
    rw [Nat.zero_add] at hfin
    exact ⟨rfl, hfin⟩)

set_option maxHeartbeats 2000000 in
theorem grow_row1 (sb g l cap n : Nat) (lr : Int) (fs : Value) (cur : Array Value) (w : World) (h : Bf w sb (.slice (some ⟨g, 0, none⟩) l cap) lr fs) (hg : w.heap[g]? = some (.cells cur 5 (0, 0))) (hcs : cur.size = cap) (hlc : l ≤ cap) (hcm : cap ≤ 140737488355328)
    (h1 : ∀ v ∈ cur.toList.take l, v.oneCell' = true) (hn : 1 ≤ n) (hroom : cap - l < n) (hlim : l + n ≤ 140737488355328) (hl0 : ((l : Int) == 0) = false) :
    Calls Tryd.prog 27 #[.pointer (some ⟨sb, 0, none⟩), .int .i64 n] w fun e w' => e = .returned (.int .i64 l) ∧ Grew sb fs l n (cur.toList.take l) w w' := by
  have hnil := eql_some ⟨g, 0, none⟩ l cap
  have H : Hid (Bf w sb (.slice (some ⟨g, 0, none⟩) l cap) lr fs) := h
  have HG : Hid (w.heap[g]? = some (.cells cur 5 (0, 0))) := hg
  clear hg
  go_enter Tryd.func27, Tryd.ntmps27
  go_wp2_with fail
  refine Calls.mono (len41 sb (some ⟨g, 0, none⟩) l cap lr fs _ H.out (by omega)) ?_
  rintro e W0 ⟨rfl, k, hW0⟩
  have h0 : Bf W0 sb (.slice (some ⟨g, 0, none⟩) l cap) lr fs := by rw [hW0]; exact H.out
  have HG0 : Hid (W0.heap[g]? = some (.cells cur 5 (0, 0))) := by rw [hW0]; exact HG.out
  have M0 : Hid (Mv sb none w W0) := by rw [hW0]; exact (Mv.refl _ _ _).drewN k
  have H0 : Hid (Bf W0 sb (.slice (some ⟨g, 0, none⟩) l cap) lr fs) := h0
  have hlt := h0.lt
  have c0 := h0.c0
  have c1 := h0.c1
  have f0 := h0.free 0
  have f1 := h0.free 1
  clear h0 h hW0
  go_wp2_with fail
  refine Calls.mono (try_none sb (some ⟨g, 0, none⟩) l cap n lr fs _ H0.out hlc (by unfold maxLen; omega) hroom) ?_
  rintro e w' ⟨rfl, rfl⟩
  have hwn : IntKind.i64.wrap (n : Int) = n := by rw [IntKind.wrap_i64]; omega
  go_wp2_with fail
  go_region_with (
      go_at_call 29
      refine (Tryd.bytes_growSlice_row g l cap n cur _ ?_ hcs hlc hn hlim hcm h1).mono ?_
      exact HG0.out
      rintro e w2 ⟨cap2, cells, rfl, hN, hcsz, htk, hcap2, hcm2, hbel⟩
      have hbk2 : Bf w2 sb (.slice (some ⟨g, 0, none⟩) l cap) lr fs := (hbel.block sb hlt).trans H0.out
      have d0 := hbk2.c0
      have d1 := hbk2.c1
      have e0 := hbk2.free 0
      have e1 := hbk2.free 1)
  all_goals (
    go_wp2
    go_ret
    have hfin := grew_set (l := l) (n := n) (.slice (some ⟨W0.heap.size, 0, none⟩) l cap2) hbk2 hN hcsz hcap2 hcm2 htk M0.out.size (by show W0.heap.size ≠ sb; omega) (M0.out.drew.trans (Mv.below hbel))
    exact ⟨rfl, hfin⟩)

end Go.Proofs.Qxb6613323aDoor.Do
