/-
  FnRawFieldsAddRefusesFailedRead (4): the early ways out; helpers of the walk.
-/
import Derived.Test.Qxb6613323aDoorEaB
namespace Go.Proofs.Qxb6613323aDoor.Do
open Go.ChangeShapes Go.WideShapes Go.ChangeAt Go.RowKit

theorem eq_nil (x : Addr) (W : World) : (binOp .eql 34 (.iface 73 (.pointer (some x))) .nilIface).run Tryd.prog W = .ok (.bool false) W := by rfl

theorem span16i (ra wa : Option Addr) (n c st en m cw : Nat) (R lw : List Int) (w : World) (sti eni : Int) (h1 : sti = (st : Int)) (h2 : eni = (en : Int)) (hR : Raw w ra c R) (hn : R.length = n) (hl : n ≤ 1048576) (hw : Rd w wa lw) (hse : st ≤ en) (hen : en ≤ n) (hlw : (R.drop st).take (en - st) = lw) (hm : lw.length = m) :
    Calls Tryd.prog 16 #[.slice ra n c, .int .i64 sti, .int .i64 eni, .slice wa m cw] w fun e w' => e = .returned (.bool true) ∧ ∃ k, w' = w.drewN k := by
  subst h1 h2
  exact span16 ra wa n c st en m cw R lw w hR hn hl hw hse hen hlw hm

theorem mid (P Q T : List Int) (R : List Int) (st en : Nat) (hR : R = P ++ Q ++ T) (hs : st = P.length) (he : en = P.length + Q.length) : (R.drop st).take (en - st) = Q := by
  subst hR hs he
  rw [List.append_assoc, List.drop_left, Nat.add_sub_cancel_left, List.take_left]

theorem Raw.later {w w' : World} {a : Option Addr} {c : Nat} {R : List Int} (h : Raw w a c R) (hb : Below w.heap.size w w') : Raw w' a c R := ⟨h.1.later hb, h.2⟩
theorem Raw.drewN {w : World} {a : Option Addr} {c : Nat} {R : List Int} (h : Raw w a c R) (q : Nat) : Raw (w.drewN q) a c R := h

/-- blocks that lie apart. -/
theorem apart_of {a : Option Addr} {l : List Int} {rs : List (Option Addr × List Int)} (hi : Nat) (ha : ∀ b o, a = some ⟨b, o, none⟩ → l ≠ [] → b < hi) (hr : ∀ r ∈ rs, ∀ b o, r.1 = some ⟨b, o, none⟩ → r.2 ≠ [] → hi ≤ b) :
    ∀ r ∈ rs, ∀ b o o', a = some ⟨b, o, none⟩ → r.1 = some ⟨b, o', none⟩ → l = [] ∨ r.2 = [] := by
  intro r hm b o o' h1 h2
  by_cases hl : l = []
  · exact .inl hl
  · by_cases hl2 : r.2 = []
    · exact .inr hl2
    · have := ha b o h1 hl
      have := hr r hm b o' h2 hl2
      omega

set_option maxRecDepth 100000 in
set_option maxHeartbeats 8000000 in
theorem refuses_big (s1 s2 s3 : ByteArray) (a1 a2 a3 : Option Addr) (m1 m2 m3 c1 c2 c3 : Nat) (w : World) (h : (65536 : Int) < (s1.size : Int) ∨ (65536 : Int) < (m1 : Int) ∨ (65536 : Int) < (s2.size : Int) ∨ (65536 : Int) < (m2 : Int) ∨ (65536 : Int) < (s3.size : Int) ∨ (65536 : Int) < (m3 : Int)) :
    Calls Tryd.prog 4 #[.string s1, .slice a1 m1 c1, .string s2, .slice a2 m2 c2, .string s3, .slice a3 m3 c3] w fun e w' => e = .returned (.bool true) ∧ w = w' := by
  have C : Hid (Calls Tryd.prog 13 #[.string s1, .slice a1 m1 c1, .string s2, .slice a2 m2 c2, .string s3, .slice a3 m3 c3] w fun e w' => ∃ b, e = .returned (.bool b) ∧ w = w') := bytes13_any s1 s2 s3 a1 a2 a3 m1 m2 m3 c1 c2 c3 w
  by_cases h1 : (65536 : Int) < (s1.size : Int)
  · go_enter Tryd.func4, Tryd.ntmps4
    go_wp2_with fail
    refine Calls.mono C.out ?_
    rintro e w' ⟨b, rfl, rfl⟩
    cases b
    all_goals
      go_wp2_with fail
      go_ret
      exact ⟨rfl, rfl⟩
  by_cases h2 : (65536 : Int) < (m1 : Int)
  · go_enter Tryd.func4, Tryd.ntmps4
    go_wp2_with fail
    refine Calls.mono C.out ?_
    rintro e w' ⟨b, rfl, rfl⟩
    cases b
    all_goals
      go_wp2_with fail
      go_ret
      exact ⟨rfl, rfl⟩
  by_cases h3 : (65536 : Int) < (s2.size : Int)
  · go_enter Tryd.func4, Tryd.ntmps4
    go_wp2_with fail
    refine Calls.mono C.out ?_
    rintro e w' ⟨b, rfl, rfl⟩
    cases b
    all_goals
      go_wp2_with fail
      go_ret
      exact ⟨rfl, rfl⟩
  by_cases h4 : (65536 : Int) < (m2 : Int)
  · go_enter Tryd.func4, Tryd.ntmps4
    go_wp2_with fail
    refine Calls.mono C.out ?_
    rintro e w' ⟨b, rfl, rfl⟩
    cases b
    all_goals
      go_wp2_with fail
      go_ret
      exact ⟨rfl, rfl⟩
  by_cases h5 : (65536 : Int) < (s3.size : Int)
  · go_enter Tryd.func4, Tryd.ntmps4
    go_wp2_with fail
    refine Calls.mono C.out ?_
    rintro e w' ⟨b, rfl, rfl⟩
    cases b
    all_goals
      go_wp2_with fail
      go_ret
      exact ⟨rfl, rfl⟩
  have h6 : (65536 : Int) < (m3 : Int) := by omega
  clear h
  go_enter Tryd.func4, Tryd.ntmps4
  go_wp2_with fail
  refine Calls.mono C.out ?_
  rintro e w' ⟨b, rfl, rfl⟩
  cases b
  all_goals
    go_wp2_with fail
    go_ret
    exact ⟨rfl, rfl⟩

end Go.Proofs.Qxb6613323aDoor.Do
