/-
  Contracts of the small functions of package schedule's 'latest': zzPairHeld (6), ZZnewLatest (7), ZZlatestFields (10), zzIdentityKey (16), other (17), ZZother (11), offer (19).
-/
import Derived.Test.Qxb6613264aRows
import Derived.WalkKit
import Derived.ProofKit
import Derived.OpenShut
import Derived.ShutString
import Derived.ChangeOld
import Derived.Below
import Derived.Deep.QuietTactic
import Derived.BigQuiet
import Derived.RegionTactic
import Derived.BigRegion
import Derived.WalkSpells
import Derived.Outline
import Derived.Handy
namespace Go.Proofs.Qxb6613264a.Lat
open Go.ChangeShapes Go.WideShapes Go.ChangeAt Go.RowKit

/-- what zzPairHeld says. -/
def ph (a b : Int) : Bool := if a = 0 then b == 0 else (b == 0 || decide (b < a))

set_option maxHeartbeats 400000 in
theorem held6 (a b : Int) (w : World) :
    Calls Try.prog 6 #[.int .i64 a, .int .i64 b] w fun e w' => e = .returned (.bool (ph a b)) ∧ w = w' := by
  by_cases ha : a = 0
  · have e1 : ph a b = (b == 0) := by simp [ph, ha]
    rw [e1]
    subst ha
    go_enter Try.func6, Try.ntmps6
    go_wp2
    go_ret
    exact ⟨rfl, rfl⟩
  · have e1 : ph a b = (b == 0 || decide (b < a)) := by simp [ph, ha]
    rw [e1]
    have ha0 : (a == 0) = false := by simpa using ha
    clear e1
    go_enter Try.func6, Try.ntmps6
    go_wp2
    all_goals (go_ret; exact ⟨by simp_all, rfl⟩)

set_option maxHeartbeats 400000 in
theorem new7 (a b c d : Int) (w : World) :
    Calls Try.prog 7 #[.int .i64 a, .int .i64 b, .int .i64 c, .int .i64 d] w fun e w' => e = .returned (.pointer (some ⟨w.heap.size, 0, none⟩)) ∧ w.alloc (.cells #[.int .i64 a, .int .i64 b, .int .i64 c, .int .i64 d] 38) = w' := by
  go_enter Try.func7, Try.ntmps7
  go_wp2
  go_ret
  exact ⟨rfl, rfl⟩

set_option maxHeartbeats 400000 in
theorem key16 (a : Int) (w : World) :
    Calls Try.prog 16 #[.int .i64 a] w fun e w' => e = .returned (.int .i64 a) ∧ w = w' := by
  go_enter Try.func16, Try.ntmps16
  go_wp2
  go_ret
  exact ⟨rfl, rfl⟩


/-- what '(*latest).other' answers of a pair. -/
def oth (p0 p1 x : Int) : Int := if p0 = x then p1 else p0

/-- block 'b' is a latest that holds p0, p1, each with itself as its key. -/
def Lt (w : World) (b : Nat) (p0 p1 : Int) : Prop := w.heap[b]? = some (.cells #[.int .i64 p0, .int .i64 p1, .int .i64 p0, .int .i64 p1] 38 (0, 0))

theorem Lt.cells {w : World} {b : Nat} {p0 p1 : Int} (h : Lt w b p0 p1) :
    w.cell? ⟨b, 0, none⟩ = some (.int .i64 p0) ∧ w.cell? ⟨b, 1, none⟩ = some (.int .i64 p1) ∧ w.cell? ⟨b, 2, none⟩ = some (.int .i64 p0) ∧ w.cell? ⟨b, 3, none⟩ = some (.int .i64 p1) := by
  unfold Lt at h
  simp [World.cell?, h]

theorem Lt.free {w : World} {b : Nat} {p0 p1 : Int} (h : Lt w b p0 p1) (o : Nat) : w.frozen? ⟨b, o, none⟩ = false := by
  unfold Lt at h
  simp [World.frozen?, h]

theorem Lt.drewN {w : World} {b : Nat} {p0 p1 : Int} (h : Lt w b p0 p1) (n : Nat) : Lt (w.drewN n) b p0 p1 := h

theorem other_nil (x : Int) (w : World) :
    Calls Try.prog 17 #[.pointer none, .int .i64 x] w fun e w' => e = .returned (.int .i64 0) ∧ w = w' := by
  go_enter Try.func17, Try.ntmps17
  go_wp2
  go_ret
  exact ⟨rfl, rfl⟩

set_option maxHeartbeats 400000 in
theorem other17 (b : Nat) (p0 p1 x : Int) (w : World) (h : Lt w b p0 p1) :
    Calls Try.prog 17 #[.pointer (some ⟨b, 0, none⟩), .int .i64 x] w fun e w' => e = .returned (.int .i64 (oth p0 p1 x)) ∧ w = w' := by
  obtain ⟨c0, c1, c2, c3⟩ := h.cells
  clear h
  by_cases hx : p0 = x
  · have e1 : oth p0 p1 x = p1 := by simp [oth, hx]
    rw [e1]
    clear e1
    subst hx
    go_enter Try.func17, Try.ntmps17
    go_wp2
    go_ret
    exact ⟨rfl, rfl⟩
  · have e1 : oth p0 p1 x = p0 := by simp [oth, hx]
    rw [e1]
    clear e1
    have hx0 : (p0 != x) = true := by simpa using hx
    go_enter Try.func17, Try.ntmps17
    go_wp2
    go_ret
    exact ⟨rfl, rfl⟩

theorem zother_nil (x : Int) (w : World) :
    Calls Try.prog 11 #[.pointer none, .int .i64 x] w fun e w' => e = .returned (.int .i64 0) ∧ w = w' := by
  go_enter Try.func11, Try.ntmps11
  go_wp2_with (go_at_call 17; refine (other_nil x _).mono ?_; rintro e w' ⟨rfl, rfl⟩)
  go_ret
  exact ⟨rfl, rfl⟩

theorem zother11 (b : Nat) (p0 p1 x : Int) (w : World) (h : Lt w b p0 p1) :
    Calls Try.prog 11 #[.pointer (some ⟨b, 0, none⟩), .int .i64 x] w fun e w' => e = .returned (.int .i64 (oth p0 p1 x)) ∧ w = w' := by
  go_enter Try.func11, Try.ntmps11
  go_wp2_with (go_at_call 17; refine (other17 b p0 p1 x _ h).mono ?_; rintro e w' ⟨rfl, rfl⟩)
  go_ret
  exact ⟨rfl, rfl⟩

set_option maxHeartbeats 400000 in
theorem fields10 (b : Nat) (p0 p1 : Int) (w : World) (h : Lt w b p0 p1) :
    Calls Try.prog 10 #[.pointer (some ⟨b, 0, none⟩)] w fun e w' => e = .returned (.tuple #[.int .i64 p0, .int .i64 p1, .int .i64 p0, .int .i64 p1]) ∧ ∃ n, w' = w.drewN n := by
  obtain ⟨c0, c1, c2, c3⟩ := h.cells
  clear h
  go_enter Try.func10, Try.ntmps10
  go_wp2
  go_quiet (fail)
  go_wp2
  exact bodyPost_ret (v := .tuple #[.int .i64 p0, .int .i64 p1, .int .i64 p0, .int .i64 p1]) (by simp [results, Try.results10, go_sem]) rfl ⟨rfl, _, rfl⟩

end Go.Proofs.Qxb6613264a.Lat
