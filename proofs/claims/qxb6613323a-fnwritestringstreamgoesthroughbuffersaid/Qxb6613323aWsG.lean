/-
  The Writer over its sink: what stands in memory ('WS'); ZZnewSinkWriter (7), ZZwriterBuf (11), ZZsinkBytes (9), Flush (13).
-/
import Derived.Test.Qxb6613323aWsF
namespace Go.Proofs.Qxb6613323a.Ws
open Go.ChangeShapes Go.WideShapes Go.ChangeAt Go.RowKit

/-- the Writer in block wb, its buffer's row gw holding T, over the sink in block sb that holds S (in its row g); all of it new since w0. -/
structure WS (w0 w : World) (wb sb gw : Nat) (g : Option Nat) (S T : List Int) : Prop where
  below : Below w0.heap.size w0 w
  wr : w.heap[wb]? = some (.cells #[.iface 26 (.pointer (some ⟨sb, 0, none⟩)), .slice (some ⟨gw, 0, none⟩) T.length 512] 44 (0, 0))
  row : ∃ cur, w.heap[gw]? = some (.cells cur 5 (0, 0)) ∧ cur.size = 512 ∧ cur.toList.take T.length = U T
  hT : T.length ≤ 512
  sk : Sk w sb S g
  nw : w0.heap.size ≤ wb
  ns : w0.heap.size ≤ sb
  ng : w0.heap.size ≤ gw
  d1 : wb ≠ sb
  d2 : wb ≠ gw
  d3 : sb ≠ gw
  dg : ∀ k, g = some k → k ≠ wb ∧ k ≠ gw ∧ w0.heap.size ≤ k

variable {w0 w w' : World} {wb sb gw : Nat} {g g' : Option Nat} {S T p : List Int}

theorem WS.c0 (h : WS w0 w wb sb gw g S T) : w.cell? ⟨wb, 0, none⟩ = some (.iface 26 (.pointer (some ⟨sb, 0, none⟩))) := by simp [World.cell?, h.wr]
theorem WS.c1 (h : WS w0 w wb sb gw g S T) : w.cell? ⟨wb, 1, none⟩ = some (.slice (some ⟨gw, 0, none⟩) T.length 512) := by simp [World.cell?, h.wr]
theorem WS.free (h : WS w0 w wb sb gw g S T) (o : Nat) : w.frozen? ⟨wb, o, none⟩ = false := by simp [World.frozen?, h.wr]
theorem WS.lt_wb (h : WS w0 w wb sb gw g S T) : wb < w.heap.size := (Array.getElem?_eq_some_iff.1 h.wr).1
theorem WS.lt_gw (h : WS w0 w wb sb gw g S T) : gw < w.heap.size := by obtain ⟨_, h, _⟩ := h.row; exact (Array.getElem?_eq_some_iff.1 h).1

/-- the buffer's bytes are read through the slice that the Writer holds. -/
theorem WS.rdT (h : WS w0 w wb sb gw g S T) : Rd w (some ⟨gw, 0, none⟩) T := by
  obtain ⟨cur, hc, hs, ht⟩ := h.row
  refine .inr ⟨_, _, rfl, fun i hi => ?_⟩
  have e : cur.toList[i]? = (U T)[i]? := by rw [← ht, List.getElem?_take_of_lt hi]
  rw [U_get T i hi] at e
  simp [World.cell?, hc]
  simpa using e

theorem WS.src (h : WS w0 w wb sb gw g S T) : ∀ j v, (U T)[j]? = some v → w.cell? ((⟨gw, 0, none⟩ : Addr).add j) = some v := by
  intro j v hj
  have hjl : j < T.length := by have := (List.getElem?_eq_some_iff.1 hj).1; rwa [U_length] at this
  rw [U_get T j hjl] at hj
  cases hj
  rcases h.rdT with e | ⟨b, o, e, hc⟩
  · rw [e] at hjl; cases hjl
  · cases e; rw [Addr.add_lit]; exact hc j hjl

theorem WS.drewN (h : WS w0 w wb sb gw g S T) (n : Nat) : WS w0 (w.drewN n) wb sb gw g S T :=
  ⟨below_drewN h.below n, h.wr, h.row, h.hT, by cases g <;> exact h.sk, h.nw, h.ns, h.ng, h.d1, h.d2, h.d3, h.dg⟩

/-- behind a Write into the sink. -/
theorem WS.sunk (h : WS w0 w wb sb gw g S T) (hs : Sk w' sb (S ++ p) g') (hg : g' = g ∨ ∃ k, g' = some k ∧ w.heap.size ≤ k) (hM : Mv sb g w w') : WS w0 w' wb sb gw g' (S ++ p) T := by
  have kw : w'.heap[wb]? = w.heap[wb]? := hM.block wb h.lt_wb h.d1 (fun e => (h.dg wb e.symm).1 rfl)
  have kg : w'.heap[gw]? = w.heap[gw]? := hM.block gw h.lt_gw (Ne.symm h.d3) (fun e => (h.dg gw e.symm).2.1 rfl)
  refine ⟨h.below.trans ⟨hM.os, hM.tape, hM.output, hM.size, fun k hk => hM.block k (Nat.lt_of_lt_of_le hk h.below.size) (by have := h.ns; omega) (fun e => by have := (h.dg k e.symm).2.2; omega)⟩, kw.trans h.wr, ?_, h.hT, hs, h.nw, h.ns, h.ng, h.d1, h.d2, h.d3, ?_⟩
  · obtain ⟨cur, a, b⟩ := h.row
    exact ⟨cur, kg.trans a, b⟩
  · intro k hk
    rcases hg with rfl | ⟨k', e, hge⟩
    · exact h.dg k hk
    · rw [hk] at e
      cases e
      have a1 := h.lt_wb
      have a2 := h.lt_gw
      have a3 := h.below.size
      exact ⟨by omega, by omega, by omega⟩

/-- behind a store of the buffer's slice (its first m bytes are T2). -/
theorem WS.sliced (h : WS w0 w wb sb gw g S T) {T2 : List Int} (hl : T2.length ≤ 512) (hr : ∃ cur, w.heap[gw]? = some (.cells cur 5 (0, 0)) ∧ cur.size = 512 ∧ cur.toList.take T2.length = U T2) :
    WS w0 (w.setCell ⟨wb, 1, none⟩ (.slice (some ⟨gw, 0, none⟩) T2.length 512)) wb sb gw g S T2 := by
  have ks : ∀ k, k ≠ wb → (w.setCell ⟨wb, 1, none⟩ (.slice (some ⟨gw, 0, none⟩) T2.length 512)).heap[k]? = w.heap[k]? := fun k hk => Below.heap_setCell _ _ _ _ hk
  refine ⟨h.below.setCell h.nw _, ?_, ?_, hl, ?_, h.nw, h.ns, h.ng, h.d1, h.d2, h.d3, h.dg⟩
  · rw [set_block h.wr]; rfl
  · obtain ⟨cur, a, b⟩ := hr
    exact ⟨cur, (ks gw (Ne.symm h.d2)).trans a, b⟩
  · have hsk := h.sk
    cases g with
    | none => exact ⟨hsk.1, hsk.2.choose, (ks sb (Ne.symm h.d1)).trans hsk.2.choose_spec⟩
    | some k =>
      obtain ⟨cap, cur, lr, a, b, r⟩ := hsk
      exact ⟨cap, cur, lr, (ks sb (Ne.symm h.d1)).trans a, (ks k (h.dg k rfl).1).trans b, r⟩

set_option maxHeartbeats 400000 in
theorem wbuf11 (h : WS w0 w wb sb gw g S T) :
    Calls Try.prog 11 #[.pointer (some ⟨wb, 0, none⟩)] w fun e w' => e = .returned (.slice (some ⟨gw, 0, none⟩) T.length 512) ∧ w = w' := by
  have c1 := h.c1
  clear h
  go_enter Try.func11, Try.ntmps11
  go_wp2
  go_ret
  exact ⟨rfl, rfl⟩

set_option maxHeartbeats 1000000 in
theorem flush13 (h : WS w0 w wb sb gw g S T) (hlim : S.length ≤ 1048576) :
    Calls Try.prog 13 #[.pointer (some ⟨wb, 0, none⟩)] w fun e w' => e = .returned (.tuple #[]) ∧ ∃ g', WS w0 w' wb sb gw g' (S ++ T) [] := by
  have c0 := h.c0
  have c1 := h.c1
  have hT := h.hT
  have C : Hid _ := write38 sb g S T ⟨gw, 0, none⟩ T.length 512 w.drew h.sk rfl (Ne.symm h.d3) h.src (by omega)
  go_enter Try.func13, Try.ntmps13
  go_wp2_with fail
  have H : Hid (WS w0 w wb sb gw g S T) := h
  clear h
  go_region_with (go_at_call 38; refine Calls.mono C.out ?_; rintro e W1 ⟨rfl, g', hs, hg, hM⟩; have J : Hid (WS w0 W1 wb sb gw g' (S ++ T) T) := (H.out.drewN 1).sunk hs hg hM; have d1 := J.out.c1; have e1 := J.out.free 1; clear hs hg hM)
  all_goals (
    go_wp2
    go_end0
    exact ⟨rfl, g', J.out.sliced (T2 := []) (by simp) (by obtain ⟨cur, a, b, _⟩ := J.out.row; exact ⟨cur, a, b, by simp [U]⟩)⟩)

end Go.Proofs.Qxb6613323a.Ws
