/-
  Plain law of the pairs: what 'offer' and 'other' do to a pair of numbers, and that the order of two offers is no matter.
-/
import Derived.Test.Qxb6613264aLatD
namespace Go.Proofs.Qxb6613264a.Lat

/-- a pair as offers leave it. -/
def Ok2 (p0 p1 : Int) : Prop := (p0 = 0 → p1 = 0) ∧ (p1 ≠ 0 → p1 < p0)

theorem ok2_of_ph {a b : Int} (h : ph a b = true) : Ok2 a b := by
  unfold ph at h
  split at h
  · simp at h; exact ⟨fun _ => h, fun h2 => absurd h h2⟩
  · rename_i ha
    simp at h
    exact ⟨fun e => absurd e ha, fun h2 => by omega⟩

theorem ofr_ok {p0 p1 a : Int} (h : Ok2 p0 p1) (ha : a ≠ 0) : Ok2 (ofr p0 p1 a).1 (ofr p0 p1 a).2 := by
  obtain ⟨h1, h2⟩ := h
  unfold ofr Ok2
  split
  · exact ⟨h1, h2⟩
  split
  · dsimp only; exact ⟨fun e => absurd e ha, fun _ => by omega⟩
  split
  · dsimp only; exact ⟨by omega, fun _ => by omega⟩
  · exact ⟨h1, h2⟩

theorem oth_ofr {p0 p1 a : Int} (x : Int) (h : Ok2 p0 p1) (ha : a ≠ 0) : oth (ofr p0 p1 a).1 (ofr p0 p1 a).2 x = gst x (oth p0 p1 x) a := by
  obtain ⟨h1, h2⟩ := h
  unfold ofr gst oth
  repeat' split
  all_goals first | omega | (dsimp only at *; omega) | (dsimp only at *; done)

theorem gst_zero (x g : Int) : gst x g 0 = g := by unfold gst; rw [if_neg (by simp)]

theorem oth_start {p0 p1 : Int} (x : Int) (h : Ok2 p0 p1) : gst x (gst x 0 p0) p1 = oth p0 p1 x := by
  obtain ⟨h1, h2⟩ := h
  unfold gst oth
  repeat' split
  all_goals omega

theorem gst_comm (x g a b : Int) : gst x (gst x g a) b = gst x (gst x g b) a := by
  unfold gst
  repeat' split
  all_goals omega

theorem oth_inj {p0 p1 q0 q1 : Int} (hp : Ok2 p0 p1) (hq : Ok2 q0 q1) (h : ∀ x, oth p0 p1 x = oth q0 q1 x) : p0 = q0 ∧ p1 = q1 := by
  obtain ⟨h1, h2⟩ := hp
  obtain ⟨h3, h4⟩ := hq
  have e0 := h 0
  have e1 := h p0
  have e2 := h q0
  unfold oth at e0 e1 e2
  repeat' split at e0
  all_goals (repeat' split at e1)
  all_goals (repeat' split at e2)
  all_goals omega

/-- what an offer of 'a' (0: nothing) makes of an entry. -/
def nx (s : Option (Int × Int)) (a : Int) : Option (Int × Int) := if a = 0 then s else match s with | none => some (ofr 0 0 a) | some p => some (ofr p.1 p.2 a)

def pr (s : Option (Int × Int)) : Int × Int := s.getD (0, 0)

theorem ok_zero : Ok2 0 0 := ⟨fun _ => rfl, fun h => absurd rfl h⟩

theorem nx_ok {s : Option (Int × Int)} (h : Ok2 (pr s).1 (pr s).2) (a : Int) : Ok2 (pr (nx s a)).1 (pr (nx s a)).2 := by
  unfold nx
  split
  · exact h
  · rename_i ha
    cases s with
    | none => exact ofr_ok ok_zero ha
    | some p => exact ofr_ok h ha

theorem nx_oth {s : Option (Int × Int)} (h : Ok2 (pr s).1 (pr s).2) (a x : Int) : oth (pr (nx s a)).1 (pr (nx s a)).2 x = gst x (oth (pr s).1 (pr s).2 x) a := by
  unfold nx
  split
  · rename_i ha
    rw [ha, gst_zero]
  · rename_i ha
    cases s with
    | none => exact oth_ofr x ok_zero ha
    | some p => exact oth_ofr x h ha

theorem nx_none {s : Option (Int × Int)} {a : Int} : nx s a = none ↔ s = none ∧ a = 0 := by
  unfold nx
  split
  · rename_i ha; simp [ha]
  · rename_i ha
    cases s <;> simp [ha]

theorem nx_comm {s : Option (Int × Int)} (h : Ok2 (pr s).1 (pr s).2) (a b : Int) : nx (nx s a) b = nx (nx s b) a := by
  have e := oth_inj (nx_ok (nx_ok h a) b) (nx_ok (nx_ok h b) a) (fun x => by rw [nx_oth (nx_ok h a), nx_oth h, nx_oth (nx_ok h b), nx_oth h, gst_comm])
  cases h1 : nx (nx s a) b with
  | none =>
    rw [nx_none, nx_none] at h1
    symm
    rw [nx_none, nx_none]
    exact ⟨⟨h1.1.1, h1.2⟩, h1.1.2⟩
  | some p =>
    cases h2 : nx (nx s b) a with
    | none =>
      rw [nx_none, nx_none] at h2
      have : nx (nx s a) b = none := by rw [nx_none, nx_none]; exact ⟨⟨h2.1.1, h2.2⟩, h2.1.2⟩
      rw [h1] at this
      cases this
    | some q =>
      rw [h1, h2] at e
      obtain ⟨p0, p1⟩ := p
      obtain ⟨q0, q1⟩ := q
      have e' : p0 = q0 ∧ p1 = q1 := e
      rw [e'.1, e'.2]

theorem gx_eq (v0 v1 v2 v3 x : Int) : gx v0 v1 v2 v3 x = gst x (gst x (gst x (gst x 0 v0) v1) v2) v3 := rfl

/-- zzGreatestExcept of one pair is what 'other' answers. -/
theorem gx_pair {f0 f1 : Int} (h : Ok2 f0 f1) (b : Int) : gx f0 f1 0 0 b = oth f0 f1 b := by
  rw [gx_eq, gst_zero, gst_zero, oth_start b h]

/-- THE LAW. -/
theorem law {s : Option (Int × Int)} (h : Ok2 (pr s).1 (pr s).2) (a1 a2 x : Int) :
    oth (pr (nx (nx s a1) a2)).1 (pr (nx (nx s a1) a2)).2 x = gx (pr s).1 (pr s).2 a1 a2 x := by
  rw [nx_oth (nx_ok h a1), nx_oth h, gx_eq, oth_start x h]

end Go.Proofs.Qxb6613264a.Lat
