/-
  ZZnewSinkWriter (7), ZZsinkBytes (9), Write (8), writeLong (18).
-/
import Derived.Test.Qxb6613323aWsG
import Derived.Deep.AppendSrc
namespace Go.Proofs.Qxb6613323a.Ws
open Go.ChangeShapes Go.WideShapes Go.ChangeAt Go.RowKit

variable {w0 w w' : World} {wb sb gw : Nat} {g g' : Option Nat} {S T p : List Int}

theorem Sk.rd (h : Sk w sb S g) : ∃ a c, (∃ lr, Bf w sb (.slice a S.length c) lr) ∧ Rd w a S ∧ S.length ≤ c ∧ c ≤ maxLen ∧ (a = none ∨ ∃ k, a = some ⟨k, 0, none⟩) := by
  cases g with
  | none =>
    obtain ⟨rfl, lr, hb⟩ := h
    exact ⟨none, 0, ⟨lr, hb⟩, .inl rfl, Nat.le_refl _, Nat.zero_le _, .inl rfl⟩
  | some g =>
    obtain ⟨cap, cur, lr, hb, hg, hcs, hlc, hcm, htk, hgs⟩ := h
    refine ⟨some ⟨g, 0, none⟩, cap, ⟨lr, hb⟩, .inr ⟨_, _, rfl, fun i hi => ?_⟩, hlc, hcm, .inr ⟨g, rfl⟩⟩
    have e : cur.toList[i]? = (U S)[i]? := by rw [← htk, List.getElem?_take_of_lt hi]
    rw [U_get S i hi] at e
    simp [World.cell?, hg]
    simpa using e

set_option maxHeartbeats 1000000 in
theorem bytes19_row (k l c : Nat) (lr : Int) (hb : Bf w sb (.slice (some ⟨k, 0, none⟩) l c) lr) (_hl : l ≤ c) (_hc : c ≤ maxLen) :
    Calls Try.prog 19 #[.pointer (some ⟨sb, 0, none⟩)] w fun e w' => e = .returned (.slice (some ⟨k, 0, none⟩) l c) ∧ ∃ n, w' = w.drewN n := by
  have c0 := hb.c0
  have c1 := hb.c1
  clear hb
  unfold maxLen at _hc
  go_enter Try.func19, Try.ntmps19
  go_wp2_with fail
  go_quiet (fail)
  go_wp2_with fail
  go_ret
  exact ⟨rfl, _, rfl⟩

set_option maxHeartbeats 1000000 in
theorem bytes19_nil (lr : Int) (hb : Bf w sb (.slice none 0 0) lr) :
    Calls Try.prog 19 #[.pointer (some ⟨sb, 0, none⟩)] w fun e w' => e = .returned (.slice none 0 0) ∧ ∃ n, w' = w.drewN n := by
  have c0 := hb.c0
  have c1 := hb.c1
  clear hb
  go_enter Try.func19, Try.ntmps19
  go_wp2_with fail
  go_quiet (fail)
  go_wp2_with fail
  go_ret
  exact ⟨rfl, _, rfl⟩

theorem bytes19 (h : Sk w sb S g) :
    Calls Try.prog 19 #[.pointer (some ⟨sb, 0, none⟩)] w fun e w' => ∃ a c, e = .returned (.slice a S.length c) ∧ Rd w a S ∧ ∃ n, w' = w.drewN n := by
  obtain ⟨a, c, ⟨lr, hb⟩, hr, hl, hc, ha⟩ := h.rd
  cases g with
  | none =>
    obtain ⟨rfl, lr, hb⟩ := h
    refine (bytes19_nil lr hb).mono ?_
    rintro e w' ⟨rfl, hn⟩
    exact ⟨none, 0, rfl, .inl rfl, hn⟩
  | some g =>
    have hh : ∃ k, a = some ⟨k, 0, none⟩ := by
      rcases ha with rfl | h'
      · obtain ⟨cap, cur, lr2, hb2, r⟩ := h
        have e1 := hb.c0
        rw [hb2.c0] at e1
        cases e1
      · exact h'
    obtain ⟨k, rfl⟩ := hh
    refine (bytes19_row k S.length c lr hb hl hc).mono ?_
    rintro e w' ⟨rfl, hn⟩
    exact ⟨_, c, rfl, hr, hn⟩

theorem sink9 (h : Sk w sb S g) :
    Calls Try.prog 9 #[.pointer (some ⟨sb, 0, none⟩)] w fun e w' => ∃ a c, e = .returned (.slice a S.length c) ∧ Rd w a S ∧ ∃ n, w' = w.drewN n := by
  have C : Hid _ := bytes19 h
  clear h
  go_enter Try.func9, Try.ntmps9
  go_wp2_with fail
  refine Calls.mono C.out ?_
  rintro e w' ⟨a, c, rfl, hr, n, rfl⟩
  go_wp2_with fail
  go_ret
  exact ⟨a, c, rfl, hr, n, rfl⟩

theorem new_ws (w : World) (M : Array Value) (hMs : M.size = 512) :
    WS w (((w.alloc (.cells #[.slice none 0 0, .int .i64 0, .int .i8 0] 39)).alloc (.cells M 5)).alloc (.cells #[.iface 26 (.pointer (some ⟨w.heap.size, 0, none⟩)), .slice (some ⟨w.heap.size + 1, 0, none⟩) 0 512] 44))
      (w.heap.size + 1 + 1) w.heap.size (w.heap.size + 1) none [] [] := by
  have p0 := push_new w (.cells #[.slice none 0 0, .int .i64 0, .int .i8 0] 39)
  have p1 := push_new (w.alloc (.cells #[.slice none 0 0, .int .i64 0, .int .i8 0] 39)) (.cells M 5)
  have p2 := push_new ((w.alloc (.cells #[.slice none 0 0, .int .i64 0, .int .i8 0] 39)).alloc (.cells M 5)) (.cells #[.iface 26 (.pointer (some ⟨w.heap.size, 0, none⟩)), .slice (some ⟨w.heap.size + 1, 0, none⟩) 0 512] 44)
  simp only [World.size_alloc] at p1 p2
  refine ⟨(((Below.refl _ _).alloc (Nat.le_refl _) _).alloc (by simp) _).alloc (by simp <;> omega) _, p2, ⟨M, ?_, hMs, by simp [U]⟩, by simp, ⟨rfl, 0, ?_⟩, by omega, Nat.le_refl _, by omega, by omega, by omega, by omega, fun k hk => by cases hk⟩
  · rw [Below.heap_alloc _ _ _ (by simp)]; exact p1
  · unfold Bf
    rw [Below.heap_alloc _ _ _ (by simp <;> omega), Below.heap_alloc _ _ _ (by simp)]; exact p0

set_option maxHeartbeats 1000000 in
theorem new7 (w : World) :
    Calls Try.prog 7 #[] w fun e w' => e = .returned (.tuple #[.pointer (some ⟨w.heap.size + 1 + 1, 0, none⟩), .pointer (some ⟨w.heap.size, 0, none⟩)]) ∧ WS w w' (w.heap.size + 1 + 1) w.heap.size (w.heap.size + 1) none [] [] := by
  obtain ⟨i0, hi, hz0, hz1, hz2⟩ := info5_parts
  obtain ⟨M, hM⟩ : ∃ M, M = madeCells (Value.int .u8 0).cells ((512 : Int).toNat * i0.size) := ⟨_, rfl⟩
  have hMs : M.size = 512 := by rw [hM, size_madeCells, hz1]; rfl
  have hmk : ∀ W : World, (Instr.makeSlice 22 (.int .i64 0) (.int .i64 512)).run Try.prog W = .ok (.slice (some ⟨W.heap.size, 0, none⟩) 0 512) (W.alloc (.cells M 5)) := fun W => by
    have h := run_make (P := Try.prog) W 22 5 i0 (.int .u8 0) Try.underlying22 hi hz0 .i64 .i64 0 512 (by omega) (by omega) (by rw [hz2]; decide) (by decide)
    rw [← hM] at h
    simpa using h
  clear hM
  go_enter Try.func7, Try.ntmps7
  go_wp2
  go_ret2
  exact ⟨rfl, new_ws w M hMs⟩

/-- behind a write into the buffer's row that leaves its first bytes. -/
theorem WS.rowed (h : WS w0 w wb sb gw g S T) (Y : Array Value) (hY : Y.size = 512) (ht : Y.toList.take T.length = U T) : WS w0 (w.setRow gw Y) wb sb gw g S T := by
  have ks : ∀ k, k ≠ gw → (w.setRow gw Y).heap[k]? = w.heap[k]? := fun k hk => setRow_other w gw k Y hk
  obtain ⟨cur, hc, _, _⟩ := h.row
  refine ⟨below_setRow h.below h.ng Y, (ks wb h.d2).trans h.wr, ⟨Y, setRow_heap w gw cur Y 5 (0, 0) hc, hY, ht⟩, h.hT, ?_, h.nw, h.ns, h.ng, h.d1, h.d2, h.d3, h.dg⟩
  have hsk := h.sk
  cases g with
  | none => exact ⟨hsk.1, hsk.2.choose, (ks sb h.d3).trans hsk.2.choose_spec⟩
  | some k =>
    obtain ⟨cap, cur, lr, a, b, r⟩ := hsk
    exact ⟨cap, cur, lr, (ks sb h.d3).trans a, (ks k (h.dg k rfl).2.1).trans b, r⟩

/-- 'append(w.buf, x...)' where there is room. -/
theorem WS.append (h : WS w0 w wb sb gw g S T) (tx : TypeId) (x : Value) (hs : Src Try.prog 1 tx x p.length (U p) w) (hroom : T.length + p.length ≤ 512) :
    ∃ W2, (∀ ty, (Builtin.append_ #[22, tx] ty #[.slice (some ⟨gw, 0, none⟩) T.length 512, x]).run Try.prog w = .ok (.slice (some ⟨gw, 0, none⟩) (T.length + p.length) 512) W2) ∧ WS w0 W2 wb sb gw g S T ∧
      ∃ cur, W2.heap[gw]? = some (.cells cur 5 (0, 0)) ∧ cur.size = 512 ∧ cur.toList.take (T ++ p).length = U (T ++ p) := by
  obtain ⟨i0, hi, hz0, hz1, hz2⟩ := info5_parts
  obtain ⟨cur, hc, hcs, htk⟩ := h.row
  have hst := run_storeCells_at Try.prog gw T.length 5 (U p) 0 cur w hc (by rw [U_length, hcs]; omega) hs.one
  simp only [Nat.add_zero] at hst
  rw [U_length] at hst
  obtain ⟨q1, q2⟩ := row_written (cs := U p) (l := T.length) (n := p.length) hcs (by omega) (U_length p) (by omega)
  have q3 : ((cur.toList.take T.length ++ U p ++ cur.toList.drop (T.length + p.length)).toArray.toList).take T.length = U T := by
    have e := congrArg (List.take T.length) q2
    rw [List.take_take, Nat.min_eq_left (by omega), htk] at e
    rw [htk, e, List.take_append_of_le_length (by rw [U_length]; exact Nat.le_refl _), List.take_of_length_le (by rw [U_length]; exact Nat.le_refl _)]
  have hrun : ∀ ty, (Builtin.append_ #[22, tx] ty #[.slice (some ⟨gw, 0, none⟩) T.length 512, x]).run Try.prog w = .ok (.slice (some ⟨gw, 0, none⟩) (T.length + p.length) 512) (w.setRow gw (cur.toList.take T.length ++ U p ++ cur.toList.drop (T.length + p.length)).toArray) := by
    intro ty
    have hsl := hs.len
    have hscl := hs.cells
    rcases hs.kind with ⟨e', hk⟩ | hk <;> simp [Builtin.append_, run_underlying Try.underlying22, run_underlying hk, sizeOf, typeInfo, hi, hz1, hsl, hroom, hscl, Addr.add_lit, hst]
  refine ⟨_, hrun, h.rowed _ q1 q3, _, setRow_heap w gw cur _ 5 (0, 0) hc, q1, ?_⟩
  rw [List.length_append, q2, htk, U_append]

end Go.Proofs.Qxb6613323a.Ws
