/-
  The contract of zzGreatestExcept (9).
-/
import Derived.Test.Qxb6613264aLatB
namespace Go.Proofs.Qxb6613264a.Lat
open Go.ChangeShapes Go.WideShapes Go.ChangeAt Go.RowKit

def gst (x g v : Int) : Int := if v ≠ 0 ∧ v ≠ x ∧ (g = 0 ∨ g < v) then v else g
def vat (v0 v1 v2 v3 : Int) : Nat → Int | 0 => v0 | 1 => v1 | 2 => v2 | _ => v3
def gk (v0 v1 v2 v3 x : Int) : Nat → Int | 0 => 0 | k + 1 => gst x (gk v0 v1 v2 v3 x k) (vat v0 v1 v2 v3 k)
def gx (v0 v1 v2 v3 x : Int) : Int := gk v0 v1 v2 v3 x 4

theorem gst_yes {x g v : Int} (h : v ≠ 0) (h1 : v ≠ x) (h2 : g = 0 ∨ g < v) : gst x g v = v := if_pos ⟨h, h1, h2⟩
theorem gst_no {x g v : Int} (h : ¬ (v ≠ 0 ∧ v ≠ x ∧ (g = 0 ∨ g < v))) : gst x g v = g := if_neg h

theorem box_cell (w : World) (v0 v1 v2 v3 : Int) (k : Nat) (hk : k < 4) :
    (w.alloc (.cells #[.int .i64 v0, .int .i64 v1, .int .i64 v2, .int .i64 v3] 28)).cell? ⟨w.heap.size, k, none⟩ = some (.int .i64 (vat v0 v1 v2 v3 k)) := by
  have hg : (w.alloc (.cells #[.int .i64 v0, .int .i64 v1, .int .i64 v2, .int .i64 v3] 28)).heap[w.heap.size]? = some (.cells #[.int .i64 v0, .int .i64 v1, .int .i64 v2, .int .i64 v3] 28 (0, 0)) := by
    show (w.heap.push _)[w.heap.size]? = _
    simp
  rw [World.cell?, hg]
  match k, hk with
  | 0, _ => rfl
  | 1, _ => rfl
  | 2, _ => rfl
  | 3, _ => rfl

set_option maxHeartbeats 1000000 in
theorem great9 (v0 v1 v2 v3 x : Int) (w : World) :
    Calls Try.prog 9 #[.agg #[.int .i64 v0, .int .i64 v1, .int .i64 v2, .int .i64 v3], .int .i64 x] w fun e w' => e = .returned (.int .i64 (gx v0 v1 v2 v3 x)) ∧ w.alloc (.cells #[.int .i64 v0, .int .i64 v1, .int .i64 v2, .int .i64 v3] 28) = w' := by
  have HC : Hid (∀ k, k < 4 → (w.alloc (.cells #[.int .i64 v0, .int .i64 v1, .int .i64 v2, .int .i64 v3] 28)).cell? ⟨w.heap.size, k, none⟩ = some (.int .i64 (vat v0 v1 v2 v3 k))) := box_cell w v0 v1 v2 v3
  go_enter Try.func9, Try.ntmps9
  go_wp2
  go_loopw [5, 6] (fun g i wr => ∃ k : Nat, k ≤ 4 ∧ i = .int .i64 k ∧ g = .int .i64 (gk v0 v1 v2 v3 x k) ∧ Hid (w.alloc (.cells #[.int .i64 v0, .int .i64 v1, .int .i64 v2, .int .i64 v3] 28) = wr)) (fun _ i _ => 4 - (intOf i).toNat)
  case atStart => exact ⟨0, by omega, rfl, rfl, rfl⟩
  case round =>
    obtain ⟨k, hk, rfl, rfl, HW⟩ := hrel
    by_cases hlt : (k : Int) < 4
    · have hc := HC.out k (by omega)
      rw [HW.out] at hc
      have HG : Hid (gk v0 v1 v2 v3 x (k + 1) = gst x (gk v0 v1 v2 v3 x k) (vat v0 v1 v2 v3 k)) := rfl
      generalize hg : gk v0 v1 v2 v3 x k = g at *
      generalize hv : vat v0 v1 v2 v3 k = v at *
      clear hg hv
      by_cases h1 : v = 0
      · have e1 : Hid (gk v0 v1 v2 v3 x (k + 1) = g) := HG.out.trans (gst_no (by simp [h1]))
        have d1 : (v != 0) = false := by simpa using h1
        clear h1
        go_wp2
        go_roundw
        case rel => exact ⟨k + 1, by omega, by go_num, by rw [e1.out], HW⟩
        case measure => simp [intOf]; omega
      have d1 : (v != 0) = true := by simpa using h1
      by_cases h2 : v = x
      · have e1 : Hid (gk v0 v1 v2 v3 x (k + 1) = g) := HG.out.trans (gst_no (by simp [h2]))
        have d2 : (v != x) = false := by simpa using h2
        clear h2
        go_wp2
        go_roundw
        case rel => exact ⟨k + 1, by omega, by go_num, by rw [e1.out], HW⟩
        case measure => simp [intOf]; omega
      have d2 : (v != x) = true := by simpa using h2
      by_cases h3 : g = 0
      · have e1 : Hid (gk v0 v1 v2 v3 x (k + 1) = v) := HG.out.trans (gst_yes h1 h2 (.inl h3))
        have d3 : (g == 0) = true := by simpa using h3
        clear h3
        go_wp2
        go_roundw
        case rel => exact ⟨k + 1, by omega, by go_num, by rw [e1.out], HW⟩
        case measure => simp [intOf]; omega
      have d3 : (g == 0) = false := by simpa using h3
      by_cases h4 : g < v
      · have e1 : Hid (gk v0 v1 v2 v3 x (k + 1) = v) := HG.out.trans (gst_yes h1 h2 (.inr h4))
        go_wp2
        go_roundw
        case rel => exact ⟨k + 1, by omega, by go_num, by rw [e1.out], HW⟩
        case measure => simp [intOf]; omega
      · have e1 : Hid (gk v0 v1 v2 v3 x (k + 1) = g) := HG.out.trans (gst_no (by simp [h1, h2, h3]; omega))
        go_wp2
        go_roundw
        case rel => exact ⟨k + 1, by omega, by go_num, by rw [e1.out], HW⟩
        case measure => simp [intOf]; omega
    · obtain rfl : k = 4 := by omega
      go_wp2
      go_ret
      exact ⟨rfl, HW.out⟩

end Go.Proofs.Qxb6613264a.Lat
