/-
  grow (27) as a whole.
-/
import Derived.Test.Qxb6613323aDoorDoE
import Derived.Test.Qxb6613323aDoorDoU
namespace Go.Proofs.Qxb6613323aDoor.Do
open Go.ChangeShapes Go.WideShapes Go.ChangeAt Go.RowKit

set_option maxHeartbeats 1000000 in
/-- grow where there is room: the buffer is resliced. -/
theorem grow_room (sb g l cap n : Nat) (lr : Int) (fs : Value) (w : World) (h : Bf w sb (.slice (some ⟨g, 0, none⟩) l cap) lr fs) (hlc : l ≤ cap) (hcm : cap ≤ maxLen) (hn : n ≤ cap - l) (hl47 : l ≤ 140737488355328) :
    Calls Tryd.prog 27 #[.pointer (some ⟨sb, 0, none⟩), .int .i64 n] w fun e w' => e = .returned (.int .i64 l) ∧ Bf w' sb (.slice (some ⟨g, 0, none⟩) (l + n) cap) lr fs ∧ (∀ k : Nat, k ≠ sb → w'.heap[k]? = w.heap[k]?) ∧ Mv sb none w w' := by
  have H : Hid (Bf w sb (.slice (some ⟨g, 0, none⟩) l cap) lr fs) := h
  clear h
  by_cases hl0 : l = 0
  · subst hl0
    go_enter Tryd.func27, Tryd.ntmps27
    go_wp2_with fail
    refine Calls.mono (len41 sb (some ⟨g, 0, none⟩) 0 cap lr fs _ H.out (by omega)) ?_
    rintro e W0 ⟨rfl, k, hW0⟩
    have h0 : Bf W0 sb (.slice (some ⟨g, 0, none⟩) 0 cap) lr fs := by rw [hW0]; exact H.out
    have M0 : Hid (Mv sb none w W0) := by rw [hW0]; exact (Mv.refl _ _ _).drewN k
    have O0 : Hid (∀ k : Nat, W0.heap[k]? = w.heap[k]?) := by rw [hW0]; exact fun _ => rfl
    have H0 : Hid (Bf W0 sb (.slice (some ⟨g, 0, none⟩) 0 cap) lr fs) := h0
    have c1 := h0.c1
    clear h0 hW0
    go_wp2_with fail
    refine Calls.mono (try_room sb (some ⟨g, 0, none⟩) 0 cap n lr fs _ H0.out hlc hcm hn) ?_
    rintro e W1 ⟨rfl, hW1⟩
    have b1 : Bf W1 sb (.slice (some ⟨g, 0, none⟩) (0 + n) cap) lr fs := by rw [← hW1]; exact H0.out.set0 _
    have M1 : Hid (Mv sb none w W1) := by rw [← hW1]; exact M0.out.setCell _ _
    have O1 : Hid (∀ k : Nat, k ≠ sb → W1.heap[k]? = w.heap[k]?) := by rw [← hW1]; exact fun k hk => (Below.heap_setCell _ _ _ _ hk).trans (O0.out k)
    have B1 : Hid (Bf W1 sb (.slice (some ⟨g, 0, none⟩) (0 + n) cap) lr fs) := b1
    clear b1 hW1
    go_wp2_with fail
    go_ret
    exact ⟨rfl, B1.out, O1.out, M1.out⟩
  · have hl0' : ((l : Int) == 0) = false := by simp; omega
    go_enter Tryd.func27, Tryd.ntmps27
    go_wp2_with fail
    refine Calls.mono (len41 sb (some ⟨g, 0, none⟩) l cap lr fs _ H.out (by omega)) ?_
    rintro e W0 ⟨rfl, k, hW0⟩
    have h0 : Bf W0 sb (.slice (some ⟨g, 0, none⟩) l cap) lr fs := by rw [hW0]; exact H.out
    have M0 : Hid (Mv sb none w W0) := by rw [hW0]; exact (Mv.refl _ _ _).drewN k
    have O0 : Hid (∀ k : Nat, W0.heap[k]? = w.heap[k]?) := by rw [hW0]; exact fun _ => rfl
    have H0 : Hid (Bf W0 sb (.slice (some ⟨g, 0, none⟩) l cap) lr fs) := h0
    have c1 := h0.c1
    clear h0 hW0
    go_wp2_with fail
    refine Calls.mono (try_room sb (some ⟨g, 0, none⟩) l cap n lr fs _ H0.out hlc hcm hn) ?_
    rintro e W1 ⟨rfl, hW1⟩
    have b1 : Bf W1 sb (.slice (some ⟨g, 0, none⟩) (l + n) cap) lr fs := by rw [← hW1]; exact H0.out.set0 _
    have M1 : Hid (Mv sb none w W1) := by rw [← hW1]; exact M0.out.setCell _ _
    have O1 : Hid (∀ k : Nat, k ≠ sb → W1.heap[k]? = w.heap[k]?) := by rw [← hW1]; exact fun k hk => (Below.heap_setCell _ _ _ _ hk).trans (O0.out k)
    have B1 : Hid (Bf W1 sb (.slice (some ⟨g, 0, none⟩) (l + n) cap) lr fs) := b1
    clear b1 hW1
    go_wp2_with fail
    go_ret
    exact ⟨rfl, B1.out, O1.out, M1.out⟩

/-- what grow leaves, whichever way it went: room for n more behind S, in the row that was there or in a new block. -/
def Grown2 (sb : Nat) (fs : Value) (S : List Int) (g : Option Nat) (n : Nat) (w w' : World) : Prop :=
  ∃ g' cap cur lr, Bf w' sb (.slice (some ⟨g', 0, none⟩) (S.length + n) cap) lr fs ∧ w'.heap[g']? = some (.cells cur 5 (0, 0)) ∧ cur.size = cap ∧ S.length + n ≤ cap ∧ cap ≤ maxLen ∧ cur.toList.take S.length = U S ∧ g' ≠ sb ∧ (some g' = g ∨ w.heap.size ≤ g') ∧ Mv sb none w w'

theorem Grew.to {sb l n : Nat} {fs : Value} {old : List Value} {S : List Int} {g : Option Nat} {w w' : World} (h : Grew sb fs l n old w w') (hl : l = S.length) (ho : old = U S) (hlt : sb < w.heap.size) : Grown2 sb fs S g n w w' := by
  obtain ⟨g', cap, cur, lr, a, b, c, d, e, f, k, m⟩ := h
  subst hl ho
  exact ⟨g', cap, cur, lr, a, b, c, d, e, f, by omega, .inr k, m⟩

theorem grow27 (sb : Nat) (g : Option Nat) (S : List Int) (fs : Value) (n : Nat) (w : World) (hs : Sk w sb S fs g) (hn : 1 ≤ n) (hlim : S.length + n ≤ 140737488355328) :
    Calls Tryd.prog 27 #[.pointer (some ⟨sb, 0, none⟩), .int .i64 n] w fun e w' => e = .returned (.int .i64 S.length) ∧ Grown2 sb fs S g n w w' := by
  cases g with
  | none =>
    obtain ⟨rfl, lr, hb⟩ := hs
    have hlt := hb.lt
    by_cases h64 : n ≤ 64
    · refine (grow_small sb n lr fs w hb hn h64).mono ?_
      rintro e w' ⟨rfl, hg⟩
      exact ⟨rfl, hg.to rfl rfl hlt⟩
    · refine (grow_big sb n lr fs w hb (by omega) (by simpa using hlim)).mono ?_
      rintro e w' ⟨rfl, hg⟩
      exact ⟨rfl, hg.to rfl rfl hlt⟩
  | some g =>
    obtain ⟨cap, cur, lr, hb, hg, hcs, hlc, hcm, htk, hgs⟩ := hs
    have hlt := hb.lt
    by_cases hroom : n ≤ cap - S.length
    · refine (grow_room sb g S.length cap n lr fs w hb hlc hcm hroom (by omega)).mono ?_
      rintro e w' ⟨rfl, hb', hO, hM⟩
      exact ⟨rfl, g, cap, cur, lr, hb', (hO g hgs).trans hg, hcs, by omega, hcm, htk, hgs, .inl rfl, hM⟩
    · by_cases hl0 : S.length = 0
      · obtain rfl : S = [] := List.eq_nil_of_length_eq_zero hl0
        refine (grow_row0 sb g cap n lr fs cur w hb hg hcs (Nat.zero_le _) (by simp at hroom hlim; omega) (by simp) hn (by simp at hroom; omega) hlim).mono ?_
        rintro e w' ⟨rfl, hgr⟩
        exact ⟨rfl, hgr.to rfl (by simp [U]) hlt⟩
      · refine (grow_row1 sb g S.length cap n lr fs cur w hb hg hcs hlc (by omega) (by rw [htk]; exact U_one S) hn (by omega) hlim (by simp; exact fun e => hl0 (by rw [e]; rfl))).mono ?_
        rintro e w' ⟨rfl, hgr⟩
        exact ⟨rfl, hgr.to rfl htk hlt⟩

end Go.Proofs.Qxb6613323aDoor.Do
