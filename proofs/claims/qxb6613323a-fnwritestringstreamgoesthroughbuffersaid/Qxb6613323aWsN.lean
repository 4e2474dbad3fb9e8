/-
  The walk of FnWriteStringStreamGoesThroughBuffer (4).
-/
import Derived.Test.Qxb6613323aWsM
namespace Go.Proofs.Qxb6613323a.Ws
open Go.ChangeShapes Go.WideShapes Go.ChangeAt Go.RowKit

variable {w0 w w' : World} {wb sb gw : Nat} {g g' : Option Nat} {S T p : List Int}

set_option maxHeartbeats 1000000 in
theorem bytes14_any (s1 s2 s3 : ByteArray) (w : World) :
    Calls Try.prog 14 #[.string s1, .string s2, .string s3] w fun e w' => ∃ b, e = .returned (.bool b) ∧ w = w' := by
  go_enter Try.func14, Try.ntmps14
  go_wp2
  all_goals (go_ret; exact ⟨_, rfl, rfl⟩)

set_option maxHeartbeats 1000000 in
theorem bytes14_yes (s1 s2 s3 : ByteArray) (w : World) (h1 : (s1.size : Int) ≤ 65536) (h2 : (s2.size : Int) ≤ 65536) (h3 : (s3.size : Int) ≤ 65536) :
    Calls Try.prog 14 #[.string s1, .string s2, .string s3] w fun e w' => e = .returned (.bool true) ∧ w = w' := by
  go_enter Try.func14, Try.ntmps14
  go_wp2
  go_ret
  exact ⟨rfl, rfl⟩

set_option maxRecDepth 100000 in
set_option maxHeartbeats 1000000 in
theorem strs_big (s1 s2 s3 : ByteArray) (w : World) (h : (65536 : Int) < (s1.size : Int) ∨ (65536 : Int) < (s2.size : Int) ∨ (65536 : Int) < (s3.size : Int)) :
    Calls Try.prog 4 #[.string s1, .string s2, .string s3] w fun e w' => e = .returned (.bool true) ∧ w = w' := by
  have C : Hid _ := bytes14_any s1 s2 s3 w
  by_cases h1 : (65536 : Int) < (s1.size : Int)
  · go_enter Try.func4, Try.ntmps4
    go_wp2_with fail
    refine Calls.mono C.out ?_
    rintro e w' ⟨b, rfl, rfl⟩
    cases b
    · go_wp2_with fail
      go_ret
      exact ⟨rfl, rfl⟩
    · go_wp2_with fail
      go_ret
      exact ⟨rfl, rfl⟩
  by_cases h2 : (65536 : Int) < (s2.size : Int)
  · go_enter Try.func4, Try.ntmps4
    go_wp2_with fail
    refine Calls.mono C.out ?_
    rintro e w' ⟨b, rfl, rfl⟩
    cases b
    · go_wp2_with fail
      go_ret
      exact ⟨rfl, rfl⟩
    · go_wp2_with fail
      go_ret
      exact ⟨rfl, rfl⟩
  have h3 : (65536 : Int) < (s3.size : Int) := by omega
  clear h
  go_enter Try.func4, Try.ntmps4
  go_wp2_with fail
  refine Calls.mono C.out ?_
  rintro e w' ⟨b, rfl, rfl⟩
  cases b
  · go_wp2_with fail
    go_ret
    exact ⟨rfl, rfl⟩
  · go_wp2_with fail
    go_ret
    exact ⟨rfl, rfl⟩

theorem Rd.now' {l : List Int} {a : Option Addr} (h : Rd w0 a l) (k : WS w0 w wb sb gw g S T) : Rd w a l := h.of_below k.below h.old

theorem Rd.take {l : List Int} {b o : Nat} (h : Rd w (some ⟨b, o, none⟩) l) (m : Nat) : Rd w (some ⟨b, o, none⟩) (l.take m) := by
  rcases h with rfl | ⟨b', o', e, hc⟩
  · exact .inl (by simp)
  · cases e
    refine .inr ⟨b, o, rfl, fun i hi => ?_⟩
    rw [List.length_take] at hi
    rw [hc i (by omega)]
    have : i < m := by omega
    simp [bt, this]

theorem Rd.drop {l : List Int} {b o : Nat} (h : Rd w (some ⟨b, o, none⟩) l) (m : Nat) : Rd w (some ⟨b, o + m, none⟩) (l.drop m) := by
  rcases h with rfl | ⟨b', o', e, hc⟩
  · exact .inl (by simp)
  · cases e
    refine .inr ⟨b, o + m, rfl, fun i hi => ?_⟩
    rw [List.length_drop] at hi
    rw [Nat.add_assoc, hc (m + i) (by omega)]
    simp [bt]

/-- what ZZsinkBytes answers, in whatever world that parts in draws alone. -/
theorem sink9q (h : Sk w sb S g) : ∃ a c, Rd w a S ∧ ∀ n, Calls Try.prog 9 #[.pointer (some ⟨sb, 0, none⟩)] (w.drewN n) fun e w' => e = .returned (.slice a S.length c) ∧ ∃ m, w' = (w.drewN n).drewN m := by
  obtain ⟨a, c, ⟨lr, hb⟩, hr, hl, hc, ha⟩ := h.rd
  refine ⟨a, c, hr, fun n => ?_⟩
  have C : Hid (Calls Try.prog 19 #[.pointer (some ⟨sb, 0, none⟩)] (w.drewN n) fun e w' => e = .returned (.slice a S.length c) ∧ ∃ m, w' = (w.drewN n).drewN m) := by
    rcases ha with rfl | ⟨k, rfl⟩
    · cases g with
      | none =>
        obtain ⟨rfl, lr2, hb2⟩ := h
        have e1 := hb.c0
        rw [hb2.c0] at e1
        cases e1
        exact bytes19_nil (w := w.drewN n) lr2 hb2
      | some k =>
        obtain ⟨cap, cur, lr2, hb2, r⟩ := h
        have e1 := hb.c0
        rw [hb2.c0] at e1
        cases e1
    · exact bytes19_row (w := w.drewN n) k S.length c lr hb hl hc
  clear h hr hb ha hl hc
  go_enter Try.func9, Try.ntmps9
  go_wp2_with fail
  refine Calls.mono C.out ?_
  rintro e w' ⟨rfl, m, hm⟩
  rw [hm]
  go_wp2_with fail
  go_ret
  exact ⟨rfl, m, by simp⟩

theorem wbuf11q (h : WS w0 w wb sb gw g S T) (n : Nat) :
    Calls Try.prog 11 #[.pointer (some ⟨wb, 0, none⟩)] (w.drewN n) fun e w' => e = .returned (.slice (some ⟨gw, 0, none⟩) T.length 512) ∧ w' = w.drewN n :=
  (wbuf11 (h.drewN n)).mono fun _ _ ⟨h1, h2⟩ => ⟨h1, h2.symm⟩

theorem eq10q (a1 a2 : Option Addr) (n1 n2 c1 c2 : Nat) (l : List Int) (w : World) (n : Nat) (e1 : l.length = n1) (e2 : l.length = n2) (hl : n1 ≤ 1048576) (h1 : Rd w a1 l) (h2 : Rd w a2 l) :
    Calls Try.prog 10 #[.slice a1 n1 c1, .slice a2 n2 c2] (w.drewN n) fun e w' => e = .returned (.bool true) ∧ ∃ k, w' = (w.drewN n).drewN k :=
  eq10n a1 a2 n1 n2 c1 c2 l (w.drewN n) e1 e2 hl (h1.drewN n) (h2.drewN n)

/-- how much of the first string goes on. -/
theorem first_cut {S T : List Int} {n : Nat} (hI : Inv5 S T) (hT : T.length ≤ 512) (hn : S.length + T.length = n) (h1 : 1 ≤ n) : S.length = 512 * ((n - 1) / 512) := by
  have hT1 : T ≠ [] := by
    intro e
    have := hI.2 e
    rw [e, this] at hn
    simp at hn
    omega
  have := List.length_pos_iff.2 hT1
  have := hI.1
  omega

theorem beq0 {n : Int} (h : n = 0) : (n == 0) = true := by simpa using h
theorem beqn {n : Int} (h : n ≠ 0) : (n == 0) = false := by simpa using h

end Go.Proofs.Qxb6613323a.Ws
