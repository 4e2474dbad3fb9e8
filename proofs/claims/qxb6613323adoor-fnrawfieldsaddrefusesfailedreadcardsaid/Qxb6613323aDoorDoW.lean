/-
  A reader that fails behind its last byte, and what ReadFrom needs of it.
-/
import Derived.Test.Qxb6613323aDoorDoJ
import Derived.Test.Qxb6613323aDoorDoV
namespace Go.Proofs.Qxb6613323aDoor.Do
open Go.ChangeShapes Go.WideShapes Go.ChangeAt Go.RowKit

/-- a reader that answers 'fin' behind its last byte; 'Ok': what that answer needs of the world; 'Bad': what it leaves. -/
structure ReadsF (F : Nat) (rp fin E : Value) (RS : World → List Int → Prop) (D : Nat → Prop) (Ok Bad : World → Prop) : Prop where
  stab : ∀ w w' rest, RS w rest → (∀ k, D k ∨ k = 1 → w'.heap[k]? = w.heap[k]?) → RS w' rest
  low : ∀ w rest k, RS w rest → D k → k < w.heap.size
  eof : ∀ w rest, RS w rest → w.cell? ⟨1, 0, none⟩ = some E
  done : ∀ w g o dl dc cur, RS w [] → Ok w → ¬ D g → g ≠ 1 → w.heap[g]? = some (.cells cur 5 (0, 0)) → o + dl ≤ cur.size → 1 ≤ dl → cur.size ≤ maxLen →
    Calls Tryd.prog F #[rp, .slice (some ⟨g, o, none⟩) dl dc] w fun e w' => e = .returned (.tuple #[.int .i64 0, fin]) ∧ w'.cell? ⟨1, 0, none⟩ = some E ∧ Bad w' ∧ Kp (fun k => k < w.heap.size ∧ ¬ D k) w w'
  more : ∀ w rest g o dl dc cur, RS w rest → rest ≠ [] → ¬ D g → g ≠ 1 → w.heap[g]? = some (.cells cur 5 (0, 0)) → o + dl ≤ cur.size → 1 ≤ dl → cur.size ≤ maxLen →
    Calls Tryd.prog F #[rp, .slice (some ⟨g, o, none⟩) dl dc] w fun e w' => ∃ m : Nat, e = .returned (.tuple #[.int .i64 m, .nilIface]) ∧ 1 ≤ m ∧ m ≤ dl ∧ m ≤ rest.length ∧ RS w' (rest.drop m) ∧
      w'.heap[g]? = some (.cells (cur.toList.take o ++ U (rest.take m) ++ cur.toList.drop (o + m)).toArray 5 (0, 0)) ∧ Kp (fun k => k < w.heap.size ∧ ¬ D k ∧ k ≠ g) w w'

variable {sb : Nat} {fs rp fin E : Value} {S rest : List Int} {g g1 : Option Nat} {w wr W W' : World} {RS : World → List Int → Prop} {D K : Nat → Prop} {t L g2 cap : Nat} {cur : Array Value} {lr : Int} {F : Nat} {Ok Bad : World → Prop}

/-- behind grow(512), then b.buf = b.buf[:i]. -/
theorem RF.grownF (hR : ReadsF F rp fin E RS D Ok Bad) (h : RF sb fs S rest g w RS D K t wr g1) (hDs : ¬ D sb) (hs1 : sb ≠ 1) (hKs : ¬ K sb) (hKlt : ∀ k, K k → k < w.heap.size) (hg : Grown2 sb fs (S ++ rest.take t) g1 512 wr W) :
    ∃ g2 cap cur lr, Bf W sb (.slice (some ⟨g2, 0, none⟩) ((S ++ rest.take t).length + 512) cap) lr fs ∧
      RG sb fs S rest g w RS D K t (S ++ rest.take t).length (W.setCell ⟨sb, 0, none⟩ (.slice (some ⟨g2, 0, none⟩) (S ++ rest.take t).length cap)) g2 cap cur lr := by
  obtain ⟨g2, cap, cur, lr, hb, hrow, hcs, hln, hcm, htk, hgs, hge, hM⟩ := hg
  have h1 := one_lt (hR.eof _ _ h.rs)
  have hsz := h.kp.size
  refine ⟨g2, cap, cur, lr, hb, hb.set0 _, (Below.heap_setCell _ _ _ _ hgs).trans hrow, hcs, hln, hcm, htk, rfl, hgs, ?_, ?_, ?_, ?_⟩
  · refine hR.stab _ _ _ h.rs fun k hk => ?_
    have hks : k ≠ sb := by rintro rfl; rcases hk with hk | hk; exact hDs hk; exact hs1 hk
    refine (Below.heap_setCell _ _ _ _ hks).trans (hM.block k ?_ hks (by simp))
    rcases hk with hk | rfl
    · exact hR.low _ _ k h.rs hk
    · exact h1
  · rcases hge with e | e
    · rcases h.hg with e2 | ⟨k, e2, hk⟩
      · exact .inl (e.trans e2)
      · rw [e2] at e; cases e; exact .inr hk
    · exact .inr (by omega)
  · exact (h.kp.trans (hM.kp fun k hk => ⟨by have := hKlt k hk; omega, fun e => hKs (e ▸ hk), by simp⟩)).setCell hKs _ _
  · rcases hge with e | e
    · exact h.hD g2 e.symm
    · refine ⟨fun hd => ?_, by omega, fun hk => ?_⟩
      · have := hR.low _ _ g2 h.rs hd; omega
      · have := hKlt g2 hk; omega

/-- behind a Read that gave m bytes, and b.buf = b.buf[:i+m]. -/
theorem RG.nextF (h : RG sb fs S rest g w RS D K t L W g2 cap cur lr) (hK1 : ∀ k, K k → ¬ D k) (hKlt : ∀ k, K k → k < w.heap.size) (hDs : ¬ D sb) (hR : ReadsF F rp fin E RS D Ok Bad) (hs1 : sb ≠ 1) (hKs : ¬ K sb) {m : Nat} (hm : m ≤ cap - L) (hm2 : m ≤ (rest.drop t).length)
    (hrs : RS W' ((rest.drop t).drop m)) (hrow : W'.heap[g2]? = some (.cells (cur.toList.take L ++ U ((rest.drop t).take m) ++ cur.toList.drop (L + m)).toArray 5 (0, 0)))
    (hks : Kp (fun k => k < W.heap.size ∧ ¬ D k ∧ k ≠ g2) W W') :
    Bf W' sb (.slice (some ⟨g2, 0, none⟩) L cap) lr fs ∧ RF sb fs S rest g w RS D K (t + m) (W'.setCell ⟨sb, 0, none⟩ (.slice (some ⟨g2, 0, none⟩) (L + m) cap)) (some g2) := by
  have hb : Bf W' sb (.slice (some ⟨g2, 0, none⟩) L cap) lr fs := (hks.block sb ⟨h.bf.lt, hDs, Ne.symm h.hgs⟩).trans h.bf
  have hz := h.kp.size
  have hln := h.hln
  have hcl : (U ((rest.drop t).take m)).length = m := by rw [U_length, List.length_take]; omega
  have hw := row_written (cs := U ((rest.drop t).take m)) (l := L) (n := m) h.hcs (by omega) hcl hm
  have htake : rest.take (t + m) = rest.take t ++ (rest.drop t).take m := by rw [List.take_add]
  have hLm : (S ++ rest.take (t + m)).length = L + m := by
    rw [htake, ← List.append_assoc, List.length_append, ← h.hL, List.length_take]; omega
  refine ⟨hb, ⟨cap, (cur.toList.take L ++ U ((rest.drop t).take m) ++ cur.toList.drop (L + m)).toArray, lr, by rw [hLm]; exact hb.set0 _, (Below.heap_setCell _ _ _ _ h.hgs).trans hrow, hw.1, by rw [hLm]; omega, h.hcm, ?_, h.hgs⟩, ?_, ?_, ?_, ?_⟩
  · rw [hLm, hw.2, h.htk, htake, ← List.append_assoc, U_append, U_append, U_append]
  · rw [List.drop_drop] at hrs
    refine hR.stab _ _ _ hrs fun k hk => Below.heap_setCell _ _ _ _ ?_
    rintro rfl
    rcases hk with hk | hk
    · exact hDs hk
    · exact hs1 hk
  · rcases h.hg with e | e
    · exact .inl e
    · exact .inr ⟨g2, rfl, e⟩
  · exact (h.kp.trans (hks.mono fun k hk => ⟨by have := hKlt k hk; omega, hK1 k hk, fun e => h.hD.2.2 (e ▸ hk)⟩)).setCell hKs _ _
  · intro k e
    cases e
    exact h.hD

end Go.Proofs.Qxb6613323aDoor.Do
