/-
  The contracts of offerOther (15) and its wrapper (8), over a map of no entry or of one.
-/
import Derived.Test.Qxb6613264aLatC
import Derived.Maps.Keyed
import Derived.Deep.RegionWith
namespace Go.Proofs.Qxb6613264a.Lat
open Go.ChangeShapes Go.WideShapes Go.ChangeAt Go.RowKit

theorem chk (w : World) (em : Bool) (b : Int) : (Instr.checkKey em 10000 3 (.int .i64 b)).run Try.prog w = .ok () w :=
  MapKept.run_checkKey Try.underlying3 (by simp [MapKept.IsKey]) em 9999

theorem look_none (w : World) (mb : Nat) (b : Int) (h : w.heap[mb]? = some (.map #[] 0)) :
    (Instr.lookup 23 (.map (some mb)) (.int .i64 b) false).run Try.prog w = .ok (.pointer none) w := by
  have hf := MapKept.run_findKey (P := Try.prog) (w := w) (k := .int .i64 b) (l := []) Try.underlying3 rfl
  simp [Instr.lookup, run_underlying Try.underlying23, MapKept.run_getObj_map h, chk, hf]

theorem look_one (w : World) (mb l : Nat) (b : Int) (h : w.heap[mb]? = some (.map #[⟨.int .i64 b, .pointer (some ⟨l, 0, none⟩), 0⟩] 1)) :
    (Instr.lookup 23 (.map (some mb)) (.int .i64 b) false).run Try.prog w = .ok (.pointer (some ⟨l, 0, none⟩)) w := by
  have hf := MapKept.run_findKey (P := Try.prog) (w := w) (k := .int .i64 b) (l := [⟨.int .i64 b, .pointer (some ⟨l, 0, none⟩), 0⟩]) (a := some (0, .pointer (some ⟨l, 0, none⟩))) Try.underlying3 (by simp [Instr.findNow, Instr.sameNow])
  simp [Instr.lookup, run_underlying Try.underlying23, MapKept.run_getObj_map h, chk, hf]

theorem upd_none (w : World) (mb l : Nat) (b : Int) (h : w.heap[mb]? = some (.map #[] 0)) :
    ∃ w', (Instr.mapUpdate 23 (.map (some mb)) (.int .i64 b) (.pointer (some ⟨l, 0, none⟩))).run Try.prog w = .ok () w' ∧
      w'.heap[mb]? = some (.map #[⟨.int .i64 b, .pointer (some ⟨l, 0, none⟩), 0⟩] 1) ∧ But mb w w' := by
  have hlt : mb < w.heap.size := (Array.getElem?_eq_some_iff.1 h).1
  have hf := MapKept.run_findKey (P := Try.prog) (w := w) (k := .int .i64 b) (l := []) Try.underlying3 rfl
  refine ⟨{ w with heap := w.heap.setIfInBounds mb (.map #[⟨.int .i64 b, .pointer (some ⟨l, 0, none⟩), 0⟩] 1) }, ?_, ?_, ?_⟩
  · simp [Instr.mapUpdate, run_underlying Try.underlying23, MapKept.run_getObj_map h, chk, hf, MapKept.run_setObj_map _ h]
  · simp [hlt]
  · exact ⟨rfl, rfl, rfl, by simp, fun k hk => by simp [Ne.symm hk]⟩


theorem Lt.drew {w : World} {b : Nat} {p0 p1 : Int} (h : Lt w b p0 p1) : Lt w.drew b p0 p1 := h
theorem But.of_drew {b : Nat} {w w' : World} (h : But b w.drew w') : But b w w' := ⟨h.os, h.tape, h.output, h.size, h.block⟩

theorem oo_zero (mb fb : Nat) (b f0 f1 : Int) (k : Value) (w : World) (hf : Lt w fb f0 f1) (h0 : oth f0 f1 b = 0) :
    Calls Try.prog 15 #[.map (some mb), .int .i64 b, .pointer (some ⟨fb, 0, none⟩), k] w fun e w' => e = .returned (.tuple #[]) ∧ w = w' := by
  have C : Hid _ := other17 fb f0 f1 b w hf
  rw [h0] at C
  clear h0 hf
  go_enter Try.func15, Try.ntmps15
  go_wp2_with fail
  refine Calls.mono C.out ?_
  rintro e w' ⟨rfl, rfl⟩
  go_wp2_with fail
  go_returns
  exact ⟨rfl, rfl⟩

set_option maxHeartbeats 1000000 in
theorem oo_one (mb fb l : Nat) (b f0 f1 a p0 p1 : Int) (w : World) (hf : Lt w fb f0 f1) (ha : oth f0 f1 b = a) (h0 : (a == 0) = false)
    (hm : w.heap[mb]? = some (.map #[⟨.int .i64 b, .pointer (some ⟨l, 0, none⟩), 0⟩] 1)) (hl : Lt w l p0 p1) :
    Calls Try.prog 15 #[.map (some mb), .int .i64 b, .pointer (some ⟨fb, 0, none⟩), .func (.func 16) #[] #[]] w fun e w' => e = .returned (.tuple #[]) ∧ Lt w' l (ofr p0 p1 a).1 (ofr p0 p1 a).2 ∧ But l w w' := by
  have C : Hid _ := other17 fb f0 f1 b w hf
  rw [ha] at C
  have k1 := look_one w mb l b hm
  have k2 := look_one w.drew mb l b hm
  have CO : Hid _ := offer19 l p0 p1 a w.drew hl.drew
  clear ha hf hm
  go_enter Try.func15, Try.ntmps15
  go_wp2_with fail
  refine Calls.mono C.out ?_
  rintro e w' ⟨rfl, rfl⟩
  go_wp2_with fail
  go_region_with (first | (go_at_call 16; refine (key16 _ _).mono ?_; rintro e w' ⟨rfl, rfl⟩) | (go_at_call 19; refine Calls.mono CO.out ?_; rintro e w' ⟨rfl, hL, hB⟩))
  all_goals (go_end0; exact ⟨rfl, by assumption, But.of_drew (by assumption)⟩)

/-- 'w'' is 'w' but for block 'b' and new blocks. -/
structure More (b : Nat) (w w' : World) : Prop where
  os : w'.os = w.os
  tape : w'.tape = w.tape
  output : w'.output = w.output
  size : w.heap.size ≤ w'.heap.size
  block : ∀ k, k < w.heap.size → k ≠ b → w'.heap[k]? = w.heap[k]?

set_option maxHeartbeats 1000000 in
theorem oo_none (mb fb : Nat) (b f0 f1 a : Int) (w : World) (hf : Lt w fb f0 f1) (ha : oth f0 f1 b = a) (h0 : (a == 0) = false)
    (hm : w.heap[mb]? = some (.map #[] 0)) :
    Calls Try.prog 15 #[.map (some mb), .int .i64 b, .pointer (some ⟨fb, 0, none⟩), .func (.func 16) #[] #[]] w fun e w' => e = .returned (.tuple #[]) ∧
      w'.heap[mb]? = some (.map #[⟨.int .i64 b, .pointer (some ⟨w.heap.size, 0, none⟩), 0⟩] 1) ∧ Lt w' w.heap.size (ofr 0 0 a).1 (ofr 0 0 a).2 ∧ More mb w w' := by
  have C : Hid _ := other17 fb f0 f1 b w hf
  rw [ha] at C
  have hlt : mb < w.heap.size := (Array.getElem?_eq_some_iff.1 hm).1
  have k1 := look_none w mb b hm
  obtain ⟨W2, hu, hm2, hB2⟩ := upd_none (w.alloc (.cells #[.int .i64 0, .int .i64 0, .int .i64 0, .int .i64 0] 38)) mb w.heap.size b (by rw [Below.heap_alloc _ _ _ hlt]; exact hm)
  have hl : Lt W2 w.heap.size 0 0 := by
    unfold Lt
    rw [hB2.block _ (by omega)]
    show (w.heap.push _)[w.heap.size]? = _
    simp
  have k2 := look_one W2.drew mb w.heap.size b hm2
  have CO : Hid _ := offer19 w.heap.size 0 0 a W2.drew hl.drew
  have HM : Hid (W2.heap[mb]? = some (.map #[⟨.int .i64 b, .pointer (some ⟨w.heap.size, 0, none⟩), 0⟩] 1)) := hm2
  have HB : Hid (But mb (w.alloc (.cells #[.int .i64 0, .int .i64 0, .int .i64 0, .int .i64 0] 38)) W2) := hB2
  have fin : ∀ w' : World, Lt w' w.heap.size (ofr 0 0 a).1 (ofr 0 0 a).2 → But w.heap.size W2.drew w' →
      w'.heap[mb]? = some (.map #[⟨.int .i64 b, .pointer (some ⟨w.heap.size, 0, none⟩), 0⟩] 1) ∧ Lt w' w.heap.size (ofr 0 0 a).1 (ofr 0 0 a).2 ∧ More mb w w' := by
    intro w' hL hB
    refine ⟨(hB.block mb (by omega)).trans hm2, hL, hB.os.trans hB2.os, hB.tape.trans hB2.tape, hB.output.trans hB2.output, ?_, ?_⟩
    · have e1 := hB.size
      have e2 := hB2.size
      have e3 : w'.heap.size = W2.heap.size := e1
      rw [e3, e2]
      simp
    · intro k hk hkm
      have e1 : w'.heap[k]? = W2.heap[k]? := hB.block k (by omega)
      rw [e1, hB2.block k hkm, Below.heap_alloc _ _ _ hk]
  have FIN : Hid _ := fin
  clear ha hf hm hm2 hB2 hl fin
  go_enter Try.func15, Try.ntmps15
  go_wp2_with fail
  refine Calls.mono C.out ?_
  rintro e w' ⟨rfl, rfl⟩
  go_wp2_with fail
  go_region_with (first | (go_at_call 16; refine (key16 _ _).mono ?_; rintro e w' ⟨rfl, rfl⟩) | (go_at_call 19; refine Calls.mono CO.out ?_; rintro e w' ⟨rfl, hL, hB⟩))
  all_goals (go_end0; exact ⟨rfl, FIN.out _ (by assumption) (by assumption)⟩)

end Go.Proofs.Qxb6613264a.Lat
