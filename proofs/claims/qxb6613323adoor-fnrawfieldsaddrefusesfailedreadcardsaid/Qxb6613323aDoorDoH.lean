/-
  (*bytes.Reader).Read (47).
-/
import Derived.Test.Qxb6613323aDoorDoU
import Derived.LaidEql
namespace Go.Proofs.Qxb6613323aDoor.Do
open Go.ChangeShapes Go.WideShapes Go.ChangeAt Go.RowKit

/-- a copy whose run is known, as one step of a region that draws its order. -/
theorem step_copy_run {P : Program} {ops : Array Oper} {o : Oper} {a : Act} {w : World} {K : Act → World → Prop} {Q : Exit → Act → World → Prop} {E : Prop}
    (hg : o.guard = none) (d s : Operand) (dT sT : TypeId) (ho : o.op = .call { callee := .builtin .copy, args := #[d, s], argTypes := #[dT, sT] })
    (vd vs : Value) (hd : a.eval d = vd) (hs : a.eval s = vs) (v' : Value) (w' : World) (hr : (Builtin.copy_ #[dT, sT] o.type #[vd, vs]).run P w = .ok v' w') (hK : K (a.put o.dst v') w') :
    if Region.wanted o (yielded ops a.tmps) = true then Oper.wp P o a w K Q else E := by
  have hw : Region.wanted o (yielded ops a.tmps) = true := by simp [Region.wanted, hg]
  rw [if_pos hw]
  unfold Oper.wp
  simp [execOp, ho, resolve, invoke, builtin, hd, hs, hr, Result.andThen]
  exact hK

/-- a bytes.Reader in block rb: it reads the slice (a, n, c), and stands at i. -/
def Rr (w : World) (rb : Nat) (s : Value) (i pr : Int) : Prop := w.heap[rb]? = some (.cells #[s, .int .i64 i, .int .i64 pr] 64 (0, 0))
theorem Rr.c0 {w : World} {rb : Nat} {s : Value} {i pr : Int} (h : Rr w rb s i pr) : w.cell? ⟨rb, 0, none⟩ = some s := by unfold Rr at h; simp [World.cell?, h]
theorem Rr.c1 {w : World} {rb : Nat} {s : Value} {i pr : Int} (h : Rr w rb s i pr) : w.cell? ⟨rb, 1, none⟩ = some (.int .i64 i) := by unfold Rr at h; simp [World.cell?, h]
theorem Rr.c2 {w : World} {rb : Nat} {s : Value} {i pr : Int} (h : Rr w rb s i pr) : w.cell? ⟨rb, 2, none⟩ = some (.int .i64 pr) := by unfold Rr at h; simp [World.cell?, h]
theorem Rr.free {w : World} {rb : Nat} {s : Value} {i pr : Int} (h : Rr w rb s i pr) (o : Nat) : w.frozen? ⟨rb, o, none⟩ = false := by unfold Rr at h; simp [World.frozen?, h]
theorem Rr.lt {w : World} {rb : Nat} {s : Value} {i pr : Int} (h : Rr w rb s i pr) : rb < w.heap.size := (Array.getElem?_eq_some_iff.1 h).1
theorem Rr.set1 {w : World} {rb : Nat} {s : Value} {i pr : Int} (h : Rr w rb s i pr) (x : Int) : Rr (w.setCell ⟨rb, 1, none⟩ (.int .i64 x)) rb s x pr := by
  unfold Rr; rw [set_block h]; rfl
theorem Rr.set2 {w : World} {rb : Nat} {s : Value} {i pr : Int} (h : Rr w rb s i pr) (x : Int) : Rr (w.setCell ⟨rb, 2, none⟩ (.int .i64 x)) rb s i x := by
  unfold Rr; rw [set_block h]; rfl

set_option maxHeartbeats 1000000 in
theorem read_eof (rb : Nat) (a : Option Addr) (n c i : Nat) (pr : Int) (p E : Value) (w : World) (h : Rr w rb (.slice a n c) i pr) (hE : w.cell? ⟨1, 0, none⟩ = some E) (hin : n ≤ i) :
    Calls Tryd.prog 47 #[.pointer (some ⟨rb, 0, none⟩), p] w fun e w' => e = .returned (.tuple #[.int .i64 0, E]) ∧ ∃ k, w' = w.drewN k := by
  have c0 := h.c0
  have c1 := h.c1
  clear h
  go_enter Tryd.func47, Tryd.ntmps47
  go_wp2_with fail
  go_quiet (fail)
  go_wp2_with fail
  go_quiet (fail)
  go_wp2_with fail
  go_ret2
  exact ⟨rfl, _, World.drewN_drewN _ _ _⟩

set_option maxHeartbeats 1000000 in
theorem read_some (rb vb vo n c i g o dl dc : Nat) (pr : Int) (w : World) (m : Nat) (Y cur : Array Value) (h : Rr w rb (.slice (some ⟨vb, vo, none⟩) n c) i pr) (hin : i < n) (hnc : n ≤ c) (hn : n ≤ 1048576) (hm : m ≤ 1048576) (hg : w.heap[g]? = some (.cells cur 5 (0, 0))) (hgr : g ≠ rb)
    (hrun : ∀ W : World, (∀ k, k ≠ rb → W.heap[k]? = w.heap[k]?) → (Builtin.copy_ #[22, 22] 3 #[.slice (some ⟨g, o, none⟩) dl dc, .slice (some ⟨vb, vo + i, none⟩) (n - i) (c - i)]).run Tryd.prog W = .ok (goInt m) (W.setRow g Y)) :
    Calls Tryd.prog 47 #[.pointer (some ⟨rb, 0, none⟩), .slice (some ⟨g, o, none⟩) dl dc] w fun e w' => e = .returned (.tuple #[.int .i64 m, .nilIface]) ∧ Rr w' rb (.slice (some ⟨vb, vo, none⟩) n c) (i + m) (-1) ∧ w'.heap[g]? = some (.cells Y 5 (0, 0)) ∧
      Mv rb (some g) w w' := by
  have c0 := h.c0
  have c1 := h.c1
  have c2 := h.c2
  have f2 := h.free 2
  have f1 := h.free 1
  have H : Hid (Rr w rb (.slice (some ⟨vb, vo, none⟩) n c) i pr) := h
  have HR : Hid (∀ W : World, (∀ k, k ≠ rb → W.heap[k]? = w.heap[k]?) → (Builtin.copy_ #[22, 22] 3 #[.slice (some ⟨g, o, none⟩) dl dc, .slice (some ⟨vb, vo + i, none⟩) (n - i) (c - i)]).run Tryd.prog W = .ok (goInt m) (W.setRow g Y)) := hrun
  have HG : Hid (w.heap[g]? = some (.cells cur 5 (0, 0))) := hg
  have hci : ¬ c = i := by omega
  have hile : i ≤ n := by omega
  have hnil : ¬ n ≤ i := by omega
  clear h hrun hg
  go_enter Tryd.func47, Tryd.ntmps47
  go_wp2_with fail
  go_quiet (fail)
  go_wp2_with fail

  go_region_law (refine step_copy_run rfl (.tmp 20) (.tmp 29) 22 22 rfl _ _ rfl rfl _ _ (HR.out _ (fun k hk => Below.heap_setCell _ _ _ _ hk)) ?_)
  all_goals
    show Exit.then _ _ Exit.normal (Act.put _ (some 4) _) _
    simp only [Act.put, List.setIfInBounds_toArray, List.set_cons_succ, List.set_cons_zero]
    have key : ∃ W1 : World, W1 = (((w.drewN nq).setCell ⟨rb, 2, none⟩ (.int .i64 (-1))).drew).setRow g Y := ⟨_, rfl⟩
    obtain ⟨W1, hW1⟩ := key
    rw [← hW1]
    have b1 : Rr W1 rb (.slice (some ⟨vb, vo, none⟩) n c) i (-1) := by rw [hW1]; exact (setRow_other _ g rb Y (Ne.symm hgr)).trans (H.out.set2 (-1))
    have G1 : Hid (W1.heap[g]? = some (.cells Y 5 (0, 0))) := by
      have hg0 : (((w.drewN nq).setCell ⟨rb, 2, none⟩ (.int .i64 (-1))).drew).heap[g]? = some (.cells cur 5 (0, 0)) := (Below.heap_setCell _ _ _ _ hgr).trans HG.out
      rw [hW1]; exact setRow_heap _ g cur Y 5 (0, 0) hg0
    have M1 : Hid (Mv rb (some g) w W1) := by rw [hW1]; exact Mv.setRow (((((Mv.refl rb (some g) w).drewN nq).setCell 2 _)).drew) (.inr rfl) Y
    have B1 : Hid (Rr W1 rb (.slice (some ⟨vb, vo, none⟩) n c) i (-1)) := b1
    have d1 := b1.c1
    have e1 := b1.free 1
    clear b1 hW1
    go_wp2_with fail
    go_ret2
    exact ⟨rfl, B1.out.set1 _, (Below.heap_setCell _ _ _ _ hgr).trans G1.out, M1.out.setCell _ _⟩

end Go.Proofs.Qxb6613323aDoor.Do
