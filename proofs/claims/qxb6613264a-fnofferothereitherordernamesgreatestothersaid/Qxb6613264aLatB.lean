/-
  The contract of '(*latest).offer' (19).
-/
import Derived.Test.Qxb6613264aLatA
namespace Go.Proofs.Qxb6613264a.Lat
open Go.ChangeShapes Go.WideShapes Go.ChangeAt Go.RowKit

/-- what 'offer' makes of a pair. -/
def ofr (p0 p1 a : Int) : Int × Int :=
  if a = p0 ∨ a = p1 then (p0, p1) else if p0 = 0 ∨ p0 < a then (a, p0) else if p1 = 0 ∨ p1 < a then (p0, a) else (p0, p1)

/-- 'w'' is 'w' but for block 'b' (and the count of draws). -/
structure But (b : Nat) (w w' : World) : Prop where
  os : w'.os = w.os
  tape : w'.tape = w.tape
  output : w'.output = w.output
  size : w'.heap.size = w.heap.size
  block : ∀ k, k ≠ b → w'.heap[k]? = w.heap[k]?

theorem But.refl (b : Nat) (w : World) : But b w w := ⟨rfl, rfl, rfl, rfl, fun _ _ => rfl⟩
theorem But.drew {b : Nat} {w w' : World} (h : But b w w') : But b w w'.drew := ⟨h.os, h.tape, h.output, h.size, h.block⟩
theorem But.setCell {b : Nat} {w w' : World} (h : But b w w') (o : Nat) (v : Value) : But b w (w'.setCell ⟨b, o, none⟩ v) :=
  ⟨h.os, h.tape, h.output, by simp [World.setCell, h.size], fun k hk => (Below.heap_setCell _ _ _ _ hk).trans (h.block k hk)⟩

theorem set_block {w : World} {b : Nat} {c : Array Value} {t : TypeId} {fr : Nat × Nat} (h : w.heap[b]? = some (.cells c t fr)) (o : Nat) (v : Value) :
    (w.setCell ⟨b, o, none⟩ v).heap[b]? = some (.cells (c.setIfInBounds o v) t fr) := by
  simp [World.setCell, Array.getElem?_modify, h]

theorem Lt.shift {w : World} {b : Nat} {p0 p1 : Int} (h : Lt w b p0 p1) (a : Int) :
    Lt ((((w.setCell ⟨b, 1, none⟩ (.int .i64 p0)).setCell ⟨b, 3, none⟩ (.int .i64 p0)).setCell ⟨b, 0, none⟩ (.int .i64 a)).setCell ⟨b, 2, none⟩ (.int .i64 a)) b a p0 := by
  unfold Lt
  rw [set_block (set_block (set_block (set_block h _ _) _ _) _ _)]
  rfl

theorem Lt.second {w : World} {b : Nat} {p0 p1 : Int} (h : Lt w b p0 p1) (a : Int) :
    Lt ((w.setCell ⟨b, 1, none⟩ (.int .i64 a)).setCell ⟨b, 3, none⟩ (.int .i64 a)) b p0 a := by
  unfold Lt
  rw [set_block (set_block h _ _)]
  rfl

set_option maxHeartbeats 1000000 in
theorem offer_first (b : Nat) (p0 p1 a : Int) (w : World) (h : Lt w b p0 p1) (h0 : (a == p0) = true) :
    Calls Try.prog 19 #[.pointer (some ⟨b, 0, none⟩), .int .i64 a, .int .i64 a] w fun e w' => e = .returned (.tuple #[]) ∧ Lt w' b p0 p1 ∧ But b w w' := by
  obtain ⟨c0, c1, c2, c3⟩ := h.cells
  have f0 := h.free 0
  have f1 := h.free 1
  have f2 := h.free 2
  have f3 := h.free 3
  have H : Hid (Lt w b p0 p1) := h
  clear h
  go_enter Try.func19, Try.ntmps19
  go_wp2
  go_returns
  exact ⟨rfl, H.out, But.refl b w⟩

set_option maxHeartbeats 1000000 in
theorem offer_again (b : Nat) (p0 p1 a : Int) (w : World) (h : Lt w b p0 p1) (h0 : (a == p0) = false) (h1 : (a == p1) = true) :
    Calls Try.prog 19 #[.pointer (some ⟨b, 0, none⟩), .int .i64 a, .int .i64 a] w fun e w' => e = .returned (.tuple #[]) ∧ Lt w' b p0 p1 ∧ But b w w' := by
  obtain ⟨c0, c1, c2, c3⟩ := h.cells
  have f0 := h.free 0
  have f1 := h.free 1
  have f2 := h.free 2
  have f3 := h.free 3
  have H : Hid (Lt w b p0 p1) := h
  clear h
  go_enter Try.func19, Try.ntmps19
  go_wp2
  go_returns
  exact ⟨rfl, H.out, But.refl b w⟩

set_option maxHeartbeats 1000000 in
theorem offer_empty (b : Nat) (p0 p1 a : Int) (w : World) (h : Lt w b p0 p1) (h0 : (a == p0) = false) (h1 : (a == p1) = false) (h2 : (p0 == 0) = true) :
    Calls Try.prog 19 #[.pointer (some ⟨b, 0, none⟩), .int .i64 a, .int .i64 a] w fun e w' => e = .returned (.tuple #[]) ∧ Lt w' b a p0 ∧ But b w w' := by
  obtain ⟨c0, c1, c2, c3⟩ := h.cells
  have f0 := h.free 0
  have f1 := h.free 1
  have f2 := h.free 2
  have f3 := h.free 3
  have H : Hid (Lt w b p0 p1) := h
  clear h
  go_enter Try.func19, Try.ntmps19
  go_wp2
  go_region
  go_wp2
  go_region
  go_end0
  exact ⟨rfl, H.out.shift a, (((((But.refl b w).setCell _ _).setCell _ _).setCell _ _).setCell _ _).drew.drew⟩

set_option maxHeartbeats 1000000 in
theorem offer_top (b : Nat) (p0 p1 a : Int) (w : World) (h : Lt w b p0 p1) (h0 : (a == p0) = false) (h1 : (a == p1) = false) (h2 : (p0 == 0) = false) (h3 : p0 < a) :
    Calls Try.prog 19 #[.pointer (some ⟨b, 0, none⟩), .int .i64 a, .int .i64 a] w fun e w' => e = .returned (.tuple #[]) ∧ Lt w' b a p0 ∧ But b w w' := by
  obtain ⟨c0, c1, c2, c3⟩ := h.cells
  have f0 := h.free 0
  have f1 := h.free 1
  have f2 := h.free 2
  have f3 := h.free 3
  have H : Hid (Lt w b p0 p1) := h
  clear h
  go_enter Try.func19, Try.ntmps19
  go_wp2
  go_region
  go_wp2
  go_region
  go_end0
  exact ⟨rfl, H.out.shift a, (((((But.refl b w).setCell _ _).setCell _ _).setCell _ _).setCell _ _).drew.drew⟩

set_option maxHeartbeats 1000000 in
theorem offer_sec (b : Nat) (p0 p1 a : Int) (w : World) (h : Lt w b p0 p1) (h0 : (a == p0) = false) (h1 : (a == p1) = false) (h2 : (p0 == 0) = false) (h3 : ¬ p0 < a) (h4 : (p1 == 0) = true) :
    Calls Try.prog 19 #[.pointer (some ⟨b, 0, none⟩), .int .i64 a, .int .i64 a] w fun e w' => e = .returned (.tuple #[]) ∧ Lt w' b p0 a ∧ But b w w' := by
  obtain ⟨c0, c1, c2, c3⟩ := h.cells
  have f0 := h.free 0
  have f1 := h.free 1
  have f2 := h.free 2
  have f3 := h.free 3
  have H : Hid (Lt w b p0 p1) := h
  clear h
  go_enter Try.func19, Try.ntmps19
  go_wp2
  go_region
  go_end0
  exact ⟨rfl, H.out.second a, (((But.refl b w).setCell _ _).setCell _ _).drew⟩

set_option maxHeartbeats 1000000 in
theorem offer_sec2 (b : Nat) (p0 p1 a : Int) (w : World) (h : Lt w b p0 p1) (h0 : (a == p0) = false) (h1 : (a == p1) = false) (h2 : (p0 == 0) = false) (h3 : ¬ p0 < a) (h4 : (p1 == 0) = false) (h5 : p1 < a) :
    Calls Try.prog 19 #[.pointer (some ⟨b, 0, none⟩), .int .i64 a, .int .i64 a] w fun e w' => e = .returned (.tuple #[]) ∧ Lt w' b p0 a ∧ But b w w' := by
  obtain ⟨c0, c1, c2, c3⟩ := h.cells
  have f0 := h.free 0
  have f1 := h.free 1
  have f2 := h.free 2
  have f3 := h.free 3
  have H : Hid (Lt w b p0 p1) := h
  clear h
  go_enter Try.func19, Try.ntmps19
  go_wp2
  go_region
  go_end0
  exact ⟨rfl, H.out.second a, (((But.refl b w).setCell _ _).setCell _ _).drew⟩

set_option maxHeartbeats 1000000 in
theorem offer_low (b : Nat) (p0 p1 a : Int) (w : World) (h : Lt w b p0 p1) (h0 : (a == p0) = false) (h1 : (a == p1) = false) (h2 : (p0 == 0) = false) (h3 : ¬ p0 < a) (h4 : (p1 == 0) = false) (h5 : ¬ p1 < a) :
    Calls Try.prog 19 #[.pointer (some ⟨b, 0, none⟩), .int .i64 a, .int .i64 a] w fun e w' => e = .returned (.tuple #[]) ∧ Lt w' b p0 p1 ∧ But b w w' := by
  obtain ⟨c0, c1, c2, c3⟩ := h.cells
  have f0 := h.free 0
  have f1 := h.free 1
  have f2 := h.free 2
  have f3 := h.free 3
  have H : Hid (Lt w b p0 p1) := h
  clear h
  go_enter Try.func19, Try.ntmps19
  go_wp2
  go_returns
  exact ⟨rfl, H.out, But.refl b w⟩

theorem offer19 (b : Nat) (p0 p1 a : Int) (w : World) (h : Lt w b p0 p1) :
    Calls Try.prog 19 #[.pointer (some ⟨b, 0, none⟩), .int .i64 a, .int .i64 a] w fun e w' => e = .returned (.tuple #[]) ∧ Lt w' b (ofr p0 p1 a).1 (ofr p0 p1 a).2 ∧ But b w w' := by
  by_cases h0 : a = p0
  · have e : ofr p0 p1 a = (p0, p1) := by simp [ofr, h0]
    rw [e]; exact offer_first b p0 p1 a w h (by simpa using h0)
  by_cases h1 : a = p1
  · have e : ofr p0 p1 a = (p0, p1) := by simp [ofr, h1]
    rw [e]; exact offer_again b p0 p1 a w h (by simpa using h0) (by simpa using h1)
  by_cases h2 : p0 = 0
  · have e : ofr p0 p1 a = (a, p0) := by unfold ofr; rw [if_neg (by simp [h0, h1]), if_pos (by simp [h2])]
    rw [e]; exact offer_empty b p0 p1 a w h (by simpa using h0) (by simpa using h1) (by simpa using h2)
  by_cases h3 : p0 < a
  · have e : ofr p0 p1 a = (a, p0) := by unfold ofr; rw [if_neg (by simp [h0, h1]), if_pos (by simp [h3])]
    rw [e]; exact offer_top b p0 p1 a w h (by simpa using h0) (by simpa using h1) (by simpa using h2) h3
  by_cases h4 : p1 = 0
  · have e : ofr p0 p1 a = (p0, a) := by unfold ofr; rw [if_neg (by simp [h0, h1]), if_neg (by simp [h2]; omega), if_pos (by simp [h4])]
    rw [e]; exact offer_sec b p0 p1 a w h (by simpa using h0) (by simpa using h1) (by simpa using h2) h3 (by simpa using h4)
  by_cases h5 : p1 < a
  · have e : ofr p0 p1 a = (p0, a) := by unfold ofr; rw [if_neg (by simp [h0, h1]), if_neg (by simp [h2]; omega), if_pos (by simp [h5])]
    rw [e]; exact offer_sec2 b p0 p1 a w h (by simpa using h0) (by simpa using h1) (by simpa using h2) h3 (by simpa using h4) h5
  · have e : ofr p0 p1 a = (p0, p1) := by unfold ofr; rw [if_neg (by simp [h0, h1]), if_neg (by simp [h2]; omega), if_neg (by simp [h4]; omega)]
    rw [e]; exact offer_low b p0 p1 a w h (by simpa using h0) (by simpa using h1) (by simpa using h2) h3 (by simpa using h4) h5

end Go.Proofs.Qxb6613264a.Lat
