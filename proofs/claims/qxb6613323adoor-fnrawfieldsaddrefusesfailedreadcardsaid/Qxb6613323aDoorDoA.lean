/-
  Reading slices of bytes: the predicate 'Rd', and the contracts of zzb1Eq (10).
-/
import Derived.Test.Qxb6613323aDoorRows
import Derived.WalkKit
import Derived.ProofKit
import Derived.OpenShut
import Derived.ShutString
import Derived.ChangeOld
import Derived.Below
import Derived.Deep.QuietTactic
import Derived.BigQuiet
import Derived.Laws.CopyOwn
import Derived.Laws.MakeOwn
import Derived.WalkSpells
import Derived.Outline
import Derived.Handy
namespace Go.Proofs.Qxb6613323aDoor.Do
open Go.ChangeShapes Go.WideShapes Go.ChangeAt Go.RowKit

theorem below_drewN {B : Nat} {a w : World} (h : Below B a w) (k : Nat) : Below B a (w.drewN k) := h.trans ⟨rfl, rfl, rfl, Nat.le_refl _, fun _ _ => rfl⟩

/-- the i-th byte. -/
def bt (l : List Int) (i : Nat) : Int := l.getD i 0

theorem bt_append_left {l m : List Int} {i : Nat} (h : i < l.length) : bt (l ++ m) i = bt l i := by
  unfold bt; rw [List.getD_eq_getElem?_getD, List.getD_eq_getElem?_getD, List.getElem?_append_left h]
theorem bt_append_right (l m : List Int) (i : Nat) : bt (l ++ m) (l.length + i) = bt m i := by
  unfold bt; rw [List.getD_eq_getElem?_getD, List.getD_eq_getElem?_getD, List.getElem?_append_right (Nat.le_add_right _ _), Nat.add_sub_cancel_left]

/-- the address 'a' leads to the bytes l. -/
def Rd (w : World) (a : Option Addr) (l : List Int) : Prop :=
  l = [] ∨ ∃ b o, a = some ⟨b, o, none⟩ ∧ ∀ i, i < l.length → w.cell? ⟨b, o + i, none⟩ = some (.int .u8 (bt l i))

theorem Rd.lt {w : World} {b o : Nat} {l : List Int} (h : Rd w (some ⟨b, o, none⟩) l) (hl : l ≠ []) : b < w.heap.size := by
  rcases h with h | ⟨b', o', e, hc⟩
  · exact absurd h hl
  · cases e
    have h0 := hc 0 (List.length_pos_iff.2 hl)
    by_cases hb : b < w.heap.size
    · exact hb
    · simp [World.cell?, Array.getElem?_eq_none (Nat.le_of_not_lt hb)] at h0

theorem Rd.of_below {w w' : World} {a : Option Addr} {l : List Int} {B : Nat} (h : Rd w a l) (hb : Below B w w') (hB : ∀ b o, a = some ⟨b, o, none⟩ → l ≠ [] → b < B) : Rd w' a l := by
  rcases h with h | ⟨b, o, e, hc⟩
  · exact .inl h
  · by_cases hl : l = []
    · exact .inl hl
    · exact .inr ⟨b, o, e, fun i hi => (hb.cell (p := ⟨b, o + i, none⟩) (hB b o e hl)).trans (hc i hi)⟩

theorem Rd.later {w w' : World} {a : Option Addr} {l : List Int} (h : Rd w a l) (hb : Below w.heap.size w w') : Rd w' a l :=
  h.of_below hb (fun b o e hl => by subst e; exact h.lt hl)

theorem Rd.drewN {w : World} {a : Option Addr} {l : List Int} (h : Rd w a l) (k : Nat) : Rd (w.drewN k) a l := h

set_option maxHeartbeats 1000000 in
/-- zzb1Eq of two slices that hold the same bytes. -/
theorem eq10 (a1 a2 : Option Addr) (c1 c2 : Nat) (l : List Int) (w : World) (hl : l.length ≤ 1048576) (h1 : Rd w a1 l) (h2 : Rd w a2 l) :
    Calls Tryd.prog 10 #[.slice a1 l.length c1, .slice a2 l.length c2] w fun e w' => e = .returned (.bool true) ∧ ∃ k, w' = w.drewN k := by
  have H1 : Hid (Rd w a1 l) := h1
  have H2 : Hid (Rd w a2 l) := h2
  clear h1 h2
  generalize hn : l.length = n at *
  have HN : Hid (l.length = n) := hn
  clear hn
  go_enter Tryd.func10, Tryd.ntmps10
  go_wp2
  go_loopw [5] (fun i wr => ∃ k q : Nat, k ≤ n ∧ i = .int .i64 k ∧ wr = w.drewN q) (fun i _ => n - (intOf i).toNat)
  case atStart => exact ⟨0, 0, Nat.zero_le _, rfl, rfl⟩
  case round =>
    obtain ⟨k, q, hk, rfl, rfl⟩ := hrel
    by_cases hlt : (k : Int) < (n : Int)
    · have hx1 : ∃ b o, a1 = some ⟨b, o, none⟩ ∧ w.cell? ⟨b, o + k, none⟩ = some (.int .u8 (bt l k)) := by
        rcases H1.out with h | ⟨b, o, e, hc⟩
        · have := HN.out; rw [h] at this; simp at this; omega
        · exact ⟨b, o, e, hc k (by have := HN.out; omega)⟩
      have hx2 : ∃ b o, a2 = some ⟨b, o, none⟩ ∧ w.cell? ⟨b, o + k, none⟩ = some (.int .u8 (bt l k)) := by
        rcases H2.out with h | ⟨b, o, e, hc⟩
        · have := HN.out; rw [h] at this; simp at this; omega
        · exact ⟨b, o, e, hc k (by have := HN.out; omega)⟩
      obtain ⟨b1, o1, e1, hc1⟩ := hx1
      obtain ⟨b2, o2, e2, hc2⟩ := hx2
      rw [e1, e2]
      clear e1 e2
      go_wp2_with fail
      go_quiet (fail)
      go_wp2_with fail
      go_roundw
      case rel => exact ⟨k + 1, _, by omega, by go_num, rfl⟩
      case measure => simp [intOf]; omega
    · go_wp2_with fail
      go_ret
      exact ⟨rfl, _, rfl⟩

/-- the byte at a place, with its address. -/
theorem Rd.at {w : World} {a : Option Addr} {l : List Int} (h : Rd w a l) {k n : Nat} (hn : l.length = n) (hk : k < n) : ∃ b o, a = some ⟨b, o, none⟩ ∧ w.cell? ⟨b, o + k, none⟩ = some (.int .u8 (bt l k)) := by
  rcases h with h | ⟨b, o, e, hc⟩
  · rw [h] at hn; simp at hn; omega
  · exact ⟨b, o, e, hc k (by omega)⟩

end Go.Proofs.Qxb6613323aDoor.Do
