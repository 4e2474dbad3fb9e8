/-
  The walk of FnOfferOtherEitherOrderNamesGreatestOther (3).
-/
import Derived.Test.Qxb6613264aLatE
namespace Go.Proofs.Qxb6613264a.Lat
open Go.ChangeShapes Go.WideShapes Go.ChangeAt Go.RowKit

set_option maxRecDepth 100000 in
set_option maxHeartbeats 1000000 in
theorem law_not (b : Int) (has : Bool) (t0 t1 f0 f1 g0 g1 x : Int) (w : World) (h : ph t0 t1 = false ∨ ph f0 f1 = false ∨ ph g0 g1 = false) :
    Calls Try.prog 3 #[.int .i64 b, .bool has, .int .i64 t0, .int .i64 t1, .int .i64 f0, .int .i64 f1, .int .i64 g0, .int .i64 g1, .int .i64 x] w fun e w' => e = .returned (.bool true) ∧ w = w' := by
  by_cases ht : ph t0 t1 = true
  · by_cases hf : ph f0 f1 = true
    · have hg : ph g0 g1 = false := by simpa [ht, hf] using h
      clear h
      go_enter Try.func3, Try.ntmps3
      go_wp2_with (go_at_call 6; refine (held6 _ _ _).mono ?_; rintro e w' ⟨rfl, rfl⟩)
      go_ret
      exact ⟨rfl, rfl⟩
    · have hf : ph f0 f1 = false := by simpa using hf
      clear h
      go_enter Try.func3, Try.ntmps3
      go_wp2_with (go_at_call 6; refine (held6 _ _ _).mono ?_; rintro e w' ⟨rfl, rfl⟩)
      go_ret
      exact ⟨rfl, rfl⟩
  · have ht : ph t0 t1 = false := by simpa using ht
    clear h
    go_enter Try.func3, Try.ntmps3
    go_wp2_with (go_at_call 6; refine (held6 _ _ _).mono ?_; rintro e w' ⟨rfl, rfl⟩)
    go_ret
    exact ⟨rfl, rfl⟩

theorem oth_zero (x : Int) : oth 0 0 x = 0 := by unfold oth; split <;> rfl

theorem push_new (w : World) (o : Obj) : (w.alloc o).heap[w.heap.size]? = some o := by
  show (w.heap.push o)[w.heap.size]? = _
  simp

theorem inv_start (w : World) (b f0 f1 g0 g1 : Int) :
    Inv w ((((w.alloc (.map #[] 0)).alloc (.map #[] 0)).alloc (.cells #[.int .i64 f0, .int .i64 f1, .int .i64 f0, .int .i64 f1] 38)).alloc (.cells #[.int .i64 g0, .int .i64 g1, .int .i64 g0, .int .i64 g1] 38))
      b w.heap.size (w.heap.size + 1) (w.heap.size + 1 + 1) (w.heap.size + 1 + 1 + 1) 0 0 none none f0 f1 g0 g1 := by
  refine ⟨?_, ?_, ?_, ?_, ?_, Nat.le_refl _, by omega, by omega, fun h => absurd rfl h, fun h => absurd rfl h, fun h => absurd rfl h⟩
  · exact ((((Below.refl _ _).alloc (Nat.le_refl _) _).alloc (by simp) _).alloc (by simp <;> omega) _).alloc (by simp <;> omega) _
  · show _ = _
    rw [Below.heap_alloc _ _ _ (by simp <;> omega), Below.heap_alloc _ _ _ (by simp <;> omega), Below.heap_alloc _ _ _ (by simp), push_new]
  · show _ = _
    rw [Below.heap_alloc _ _ _ (by simp <;> omega), Below.heap_alloc _ _ _ (by simp)]
    have := push_new (w.alloc (.map #[] 0)) (.map #[] 0)
    simpa using this
  · show _ = _
    rw [Below.heap_alloc _ _ _ (by simp)]
    have := push_new ((w.alloc (.map #[] 0)).alloc (.map #[] 0)) (.cells #[.int .i64 f0, .int .i64 f1, .int .i64 f0, .int .i64 f1] 38)
    simpa using this
  · show _ = _
    have := push_new (((w.alloc (.map #[] 0)).alloc (.map #[] 0)).alloc (.cells #[.int .i64 f0, .int .i64 f1, .int .i64 f0, .int .i64 f1] 38)) (.cells #[.int .i64 g0, .int .i64 g1, .int .i64 g0, .int .i64 g1] 38)
    simpa using this

set_option maxRecDepth 100000 in
set_option maxHeartbeats 2000000 in
theorem law_without (b : Int) (t0 t1 f0 f1 g0 g1 x : Int) (w : World) (ht : ph t0 t1 = true) (hf : ph f0 f1 = true) (hg : ph g0 g1 = true) :
    Calls Try.prog 3 #[.int .i64 b, .bool false, .int .i64 t0, .int .i64 t1, .int .i64 f0, .int .i64 f1, .int .i64 g0, .int .i64 g1, .int .i64 x] w fun e w' => e = .returned (.bool true) ∧ Below w.heap.size w w' := by
  have I0 : Hid _ := inv_start w b f0 f1 g0 g1
  have hmm := @run_makeMap Try.prog
  go_enter Try.func3, Try.ntmps3
  go_wp2_with (first | (go_at_call 6; refine (held6 _ _ _).mono ?_; rintro e w' ⟨rfl, rfl⟩) | (go_at_call 7; refine (new7 _ _ _ _ _).mono ?_; rintro e w' ⟨rfl, rfl⟩))
  refine Calls.mono (step1 I0.out) ?_
  rintro e W1 ⟨rfl, l1, l2, I1⟩
  go_wp2_with fail
  refine Calls.mono (step1g I1) ?_
  rintro e W2 ⟨rfl, l3, l4, I2⟩
  clear I1
  go_wp2_with fail
  refine Calls.mono (step2g I2) ?_
  rintro e W3 ⟨rfl, l5, l6, I3⟩
  clear I2
  go_wp2_with fail
  refine Calls.mono (step2 I3) ?_
  rintro e W4 ⟨rfl, l7, l8, I4⟩
  clear I3
  rw [nx_comm (s := none) ok_zero (oth g0 g1 b) (oth f0 f1 b)] at I4
  have LAW := law (s := none) ok_zero (oth f0 f1 b) (oth g0 g1 b) x
  cases hS : nx (nx none (oth f0 f1 b)) (oth g0 g1 b) with
  | none =>
    rw [hS] at I4 LAW
    have J : Hid (∀ o1 o2 o3, Inv _ (((W4.alloc o1).alloc o2).alloc o3) _ _ _ _ _ _ _ _ _ _ _ _ _) := fun o1 o2 o3 => ((I4.alloc o1).alloc o2).alloc o3
    have k1 : ∀ o1 o2 o3, _ := fun o1 o2 o3 => look_none (((W4.alloc o1).alloc o2).alloc o3) _ b (J.out o1 o2 o3).st1
    have k2 : ∀ o1 o2 o3, _ := fun o1 o2 o3 => look_none (((W4.alloc o1).alloc o2).alloc o3) _ b (J.out o1 o2 o3).st2
    have hw : gx 0 0 (gx f0 f1 0 0 b) (gx g0 g1 0 0 b) x = 0 := by
      rw [gx_pair (ok2_of_ph hf), gx_pair (ok2_of_ph hg)]
      exact LAW.symm.trans (oth_zero x)
    clear LAW hS I4
    go_wp2_with (first | (go_at_call 9; refine (great9 _ _ _ _ _ _).mono ?_; rintro e w' ⟨rfl, rfl⟩) | (go_at_call 11; refine (zother_nil _ _).mono ?_; rintro e w' ⟨rfl, rfl⟩))
    go_ret
    exact ⟨rfl, (J.out _ _ _).below⟩
  | some p =>
    obtain ⟨p0, p1⟩ := p
    rw [hS] at I4 LAW
    have J : Hid (∀ o1 o2 o3, Inv _ (((W4.alloc o1).alloc o2).alloc o3) _ _ _ _ _ _ _ _ _ _ _ _ _) := fun o1 o2 o3 => ((I4.alloc o1).alloc o2).alloc o3
    have k1 : ∀ o1 o2 o3, _ := fun o1 o2 o3 => look_one (((W4.alloc o1).alloc o2).alloc o3) _ _ b (J.out o1 o2 o3).st1.1
    have k2 : ∀ o1 o2 o3, _ := fun o1 o2 o3 => look_one (((W4.alloc o1).alloc o2).alloc o3) _ _ b (J.out o1 o2 o3).st2.1
    have hw : gx 0 0 (gx f0 f1 0 0 b) (gx g0 g1 0 0 b) x = oth p0 p1 x := by
      rw [gx_pair (ok2_of_ph hf), gx_pair (ok2_of_ph hg)]
      exact LAW.symm
    clear LAW hS I4
    go_wp2_with (go_at_call 9; refine (great9 _ _ _ _ _ _).mono ?_; rintro e w' ⟨rfl, rfl⟩)
    refine Calls.mono (fields10 _ p0 p1 _ (by exact (J.out _ _ _).st1.2)) ?_
    rintro e w' ⟨rfl, n1, rfl⟩
    go_wp2_with fail
    refine Calls.mono (fields10 _ p0 p1 _ (by exact ((J.out _ _ _).drewN n1).st2.2)) ?_
    rintro e w' ⟨rfl, n2, rfl⟩
    go_wp2_with fail
    refine Calls.mono (zother11 _ p0 p1 x _ (by exact ((J.out _ _ _).drewN _).st1.2)) ?_
    rintro e w' ⟨rfl, rfl⟩
    go_wp2_with fail
    refine Calls.mono (zother11 _ p0 p1 x _ (by exact ((J.out _ _ _).drewN _).st2.2)) ?_
    rintro e w' ⟨rfl, rfl⟩
    go_wp2_with fail
    go_ret
    exact ⟨rfl, ((J.out _ _ _).drewN _).below⟩

/-- the two maps, each with its entry at b, then the two latests. -/
theorem inv_has (w : World) (b t0 t1 f0 f1 g0 g1 : Int) :
    ∃ WA WB, (Instr.mapUpdate 23 (.map (some w.heap.size)) (.int .i64 b) (.pointer (some ⟨w.heap.size + 1 + 1, 0, none⟩))).run Try.prog (((w.alloc (.map #[] 0)).alloc (.map #[] 0)).alloc (.cells #[.int .i64 t0, .int .i64 t1, .int .i64 t0, .int .i64 t1] 38)) = .ok () WA ∧
      (Instr.mapUpdate 23 (.map (some (w.heap.size + 1))) (.int .i64 b) (.pointer (some ⟨WA.heap.size, 0, none⟩))).run Try.prog (WA.alloc (.cells #[.int .i64 t0, .int .i64 t1, .int .i64 t0, .int .i64 t1] 38)) = .ok () WB ∧
      Inv w ((WB.alloc (.cells #[.int .i64 f0, .int .i64 f1, .int .i64 f0, .int .i64 f1] 38)).alloc (.cells #[.int .i64 g0, .int .i64 g1, .int .i64 g0, .int .i64 g1] 38)) b w.heap.size (w.heap.size + 1) WB.heap.size (WB.heap.size + 1) (w.heap.size + 1 + 1) WA.heap.size (some (t0, t1)) (some (t0, t1)) f0 f1 g0 g1 := by
  have g0' := push_new w (.map #[] 0)
  have g1' := push_new (w.alloc (.map #[] 0)) (.map #[] 0)
  have g2' := push_new ((w.alloc (.map #[] 0)).alloc (.map #[] 0)) (.cells #[.int .i64 t0, .int .i64 t1, .int .i64 t0, .int .i64 t1] 38)
  simp only [World.size_alloc] at g0' g1' g2'
  have a0 : (((w.alloc (.map #[] 0)).alloc (.map #[] 0)).alloc (.cells #[.int .i64 t0, .int .i64 t1, .int .i64 t0, .int .i64 t1] 38)).heap[w.heap.size]? = some (.map #[] 0) := by
    rw [Below.heap_alloc _ _ _ (by simp <;> omega), Below.heap_alloc _ _ _ (by simp), g0']
  have a1 : (((w.alloc (.map #[] 0)).alloc (.map #[] 0)).alloc (.cells #[.int .i64 t0, .int .i64 t1, .int .i64 t0, .int .i64 t1] 38)).heap[w.heap.size + 1]? = some (.map #[] 0) := by
    rw [Below.heap_alloc _ _ _ (by simp), g1']
  obtain ⟨WA, hA, hA1, hA2⟩ := upd_none _ w.heap.size (w.heap.size + 1 + 1) b a0
  have zA : WA.heap.size = w.heap.size + 1 + 1 + 1 := by rw [hA2.size]; simp
  have b1 : WA.heap[w.heap.size + 1]? = some (.map #[] 0) := (hA2.block _ (by omega)).trans a1
  have b2 : Lt WA (w.heap.size + 1 + 1) t0 t1 := (hA2.block _ (by omega)).trans g2'
  obtain ⟨WB, hB, hB1, hB2⟩ := upd_none (WA.alloc (.cells #[.int .i64 t0, .int .i64 t1, .int .i64 t0, .int .i64 t1] 38)) (w.heap.size + 1) WA.heap.size b (by rw [Below.heap_alloc _ _ _ (by omega)]; exact b1)
  have zB : WB.heap.size = w.heap.size + 1 + 1 + 1 + 1 := by rw [hB2.size]; simp [zA]
  refine ⟨WA, WB, hA, hB, ?_⟩
  have c0 : WB.heap[w.heap.size]? = some (.map #[⟨.int .i64 b, .pointer (some ⟨w.heap.size + 1 + 1, 0, none⟩), 0⟩] 1) := by
    rw [hB2.block _ (by omega), Below.heap_alloc _ _ _ (by omega)]; exact hA1
  have c2 : Lt WB (w.heap.size + 1 + 1) t0 t1 := by
    unfold Lt
    rw [hB2.block _ (by omega), Below.heap_alloc _ _ _ (by omega)]; exact b2
  have c3 : Lt WB WA.heap.size t0 t1 := by
    unfold Lt
    rw [hB2.block _ (by omega)]; exact push_new WA (.cells #[.int .i64 t0, .int .i64 t1, .int .i64 t0, .int .i64 t1] 38)
  have bl : Below w.heap.size w WB := by
    have q1 : Below w.heap.size w (((w.alloc (.map #[] 0)).alloc (.map #[] 0)).alloc (.cells #[.int .i64 t0, .int .i64 t1, .int .i64 t0, .int .i64 t1] 38)) := (((Below.refl _ _).alloc (Nat.le_refl _) _).alloc (by simp) _).alloc (by simp <;> omega) _
    have q2 : Below w.heap.size w WA := q1.trans ⟨hA2.os, hA2.tape, hA2.output, by rw [hA2.size]; exact Nat.le_refl _, fun k hk => hA2.block k (by omega)⟩
    exact (q2.alloc (by omega) _).trans ⟨hB2.os, hB2.tape, hB2.output, by rw [hB2.size]; exact Nat.le_refl _, fun k hk => hB2.block k (by omega)⟩
  have old : ∀ k, k < WB.heap.size → ((WB.alloc (.cells #[.int .i64 f0, .int .i64 f1, .int .i64 f0, .int .i64 f1] 38)).alloc (.cells #[.int .i64 g0, .int .i64 g1, .int .i64 g0, .int .i64 g1] 38)).heap[k]? = WB.heap[k]? := by
    intro k hk
    rw [Below.heap_alloc _ _ _ (by simp <;> omega), Below.heap_alloc _ _ _ hk]
  refine ⟨(bl.alloc (by omega) _).alloc (by simp; omega) _, ⟨(old _ (by omega)).trans c0, (old _ (by omega)).trans c2⟩, ⟨(old _ (by omega)).trans hB1, (old _ (by omega)).trans c3⟩, ?_, ?_, Nat.le_refl _, by omega, by omega, fun _ => ⟨by omega, by omega, by omega⟩, fun _ => ⟨by omega, by omega, by omega⟩, fun _ _ => by omega⟩
  · unfold Lt
    rw [Below.heap_alloc _ _ _ (by simp)]
    exact push_new WB _
  · have := push_new (WB.alloc (.cells #[.int .i64 f0, .int .i64 f1, .int .i64 f0, .int .i64 f1] 38)) (.cells #[.int .i64 g0, .int .i64 g1, .int .i64 g0, .int .i64 g1] 38)
    simpa [Lt] using this

set_option maxRecDepth 100000 in
set_option maxHeartbeats 2000000 in
theorem law_with (b : Int) (t0 t1 f0 f1 g0 g1 x : Int) (w : World) (ht : ph t0 t1 = true) (hf : ph f0 f1 = true) (hg : ph g0 g1 = true) :
    Calls Try.prog 3 #[.int .i64 b, .bool true, .int .i64 t0, .int .i64 t1, .int .i64 f0, .int .i64 f1, .int .i64 g0, .int .i64 g1, .int .i64 x] w fun e w' => e = .returned (.bool true) ∧ Below w.heap.size w w' := by
  obtain ⟨WA, WB, hA, hB, hI⟩ := inv_has w b t0 t1 f0 f1 g0 g1
  have I0 : Hid _ := hI
  clear hI
  have hmm := @run_makeMap Try.prog
  go_enter Try.func3, Try.ntmps3
  go_wp2_with (first | (go_at_call 6; refine (held6 _ _ _).mono ?_; rintro e w' ⟨rfl, rfl⟩) | (go_at_call 7; refine (new7 _ _ _ _ _).mono ?_; rintro e w' ⟨rfl, rfl⟩))
  refine Calls.mono (step1 I0.out) ?_
  rintro e W1 ⟨rfl, l1, l2, I1⟩
  go_wp2_with fail
  refine Calls.mono (step1g I1) ?_
  rintro e W2 ⟨rfl, l3, l4, I2⟩
  clear I1
  go_wp2_with fail
  refine Calls.mono (step2g I2) ?_
  rintro e W3 ⟨rfl, l5, l6, I3⟩
  clear I2
  go_wp2_with fail
  refine Calls.mono (step2 I3) ?_
  rintro e W4 ⟨rfl, l7, l8, I4⟩
  clear I3
  rw [nx_comm (s := some (t0, t1)) (ok2_of_ph ht) (oth g0 g1 b) (oth f0 f1 b)] at I4
  have LAW := law (s := some (t0, t1)) (ok2_of_ph ht) (oth f0 f1 b) (oth g0 g1 b) x
  cases hS : nx (nx (some (t0, t1)) (oth f0 f1 b)) (oth g0 g1 b) with
  | none =>
    rw [hS] at I4 LAW
    have J : Hid (∀ o1 o2 o3, Inv _ (((W4.alloc o1).alloc o2).alloc o3) _ _ _ _ _ _ _ _ _ _ _ _ _) := fun o1 o2 o3 => ((I4.alloc o1).alloc o2).alloc o3
    have k1 : ∀ o1 o2 o3, _ := fun o1 o2 o3 => look_none (((W4.alloc o1).alloc o2).alloc o3) _ b (J.out o1 o2 o3).st1
    have k2 : ∀ o1 o2 o3, _ := fun o1 o2 o3 => look_none (((W4.alloc o1).alloc o2).alloc o3) _ b (J.out o1 o2 o3).st2
    have hw : gx t0 t1 (gx f0 f1 0 0 b) (gx g0 g1 0 0 b) x = 0 := by
      rw [gx_pair (ok2_of_ph hf), gx_pair (ok2_of_ph hg)]
      exact LAW.symm.trans (oth_zero x)
    clear LAW hS I4
    go_wp2_with (first | (go_at_call 9; refine (great9 _ _ _ _ _ _).mono ?_; rintro e w' ⟨rfl, rfl⟩) | (go_at_call 11; refine (zother_nil _ _).mono ?_; rintro e w' ⟨rfl, rfl⟩))
    go_ret
    exact ⟨rfl, (J.out _ _ _).below⟩
  | some p =>
    obtain ⟨p0, p1⟩ := p
    rw [hS] at I4 LAW
    have J : Hid (∀ o1 o2 o3, Inv _ (((W4.alloc o1).alloc o2).alloc o3) _ _ _ _ _ _ _ _ _ _ _ _ _) := fun o1 o2 o3 => ((I4.alloc o1).alloc o2).alloc o3
    have k1 : ∀ o1 o2 o3, _ := fun o1 o2 o3 => look_one (((W4.alloc o1).alloc o2).alloc o3) _ _ b (J.out o1 o2 o3).st1.1
    have k2 : ∀ o1 o2 o3, _ := fun o1 o2 o3 => look_one (((W4.alloc o1).alloc o2).alloc o3) _ _ b (J.out o1 o2 o3).st2.1
    have hw : gx t0 t1 (gx f0 f1 0 0 b) (gx g0 g1 0 0 b) x = oth p0 p1 x := by
      rw [gx_pair (ok2_of_ph hf), gx_pair (ok2_of_ph hg)]
      exact LAW.symm
    clear LAW hS I4
    go_wp2_with (go_at_call 9; refine (great9 _ _ _ _ _ _).mono ?_; rintro e w' ⟨rfl, rfl⟩)
    refine Calls.mono (fields10 _ p0 p1 _ (by exact (J.out _ _ _).st1.2)) ?_
    rintro e w' ⟨rfl, n1, rfl⟩
    go_wp2_with fail
    refine Calls.mono (fields10 _ p0 p1 _ (by exact ((J.out _ _ _).drewN n1).st2.2)) ?_
    rintro e w' ⟨rfl, n2, rfl⟩
    go_wp2_with fail
    refine Calls.mono (zother11 _ p0 p1 x _ (by exact ((J.out _ _ _).drewN _).st1.2)) ?_
    rintro e w' ⟨rfl, rfl⟩
    go_wp2_with fail
    refine Calls.mono (zother11 _ p0 p1 x _ (by exact ((J.out _ _ _).drewN _).st2.2)) ?_
    rintro e w' ⟨rfl, rfl⟩
    go_wp2_with fail
    go_ret
    exact ⟨rfl, ((J.out _ _ _).drewN _).below⟩

theorem law_any (b : Int) (has : Bool) (t0 t1 f0 f1 g0 g1 x : Int) (w : World) :
    Calls Try.prog 3 #[.int .i64 b, .bool has, .int .i64 t0, .int .i64 t1, .int .i64 f0, .int .i64 f1, .int .i64 g0, .int .i64 g1, .int .i64 x] w fun e w' => e = .returned (.bool true) ∧ Below w.heap.size w w' := by
  by_cases h : ph t0 t1 = false ∨ ph f0 f1 = false ∨ ph g0 g1 = false
  · refine (law_not b has t0 t1 f0 f1 g0 g1 x w h).mono ?_
    rintro e w' ⟨rfl, rfl⟩
    exact ⟨rfl, Below.refl _ _⟩
  · simp only [not_or, Bool.not_eq_false] at h
    cases has with
    | false => exact law_without b t0 t1 f0 f1 g0 g1 x w h.1 h.2.1 h.2.2
    | true => exact law_with b t0 t1 f0 f1 g0 g1 x w h.1 h.2.1 h.2.2

end Go.Proofs.Qxb6613264a.Lat
