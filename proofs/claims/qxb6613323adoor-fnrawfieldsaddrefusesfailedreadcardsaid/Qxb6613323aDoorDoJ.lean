/-
  (*bytes.Buffer).ReadFrom (25) over a bytes.Reader.
-/
import Derived.Test.Qxb6613323aDoorDoG
import Derived.Test.Qxb6613323aDoorDoI
namespace Go.Proofs.Qxb6613323aDoor.Do
open Go.ChangeShapes Go.WideShapes Go.ChangeAt Go.RowKit

/-- between two rounds of ReadFrom: t bytes have been read. -/
structure RF (sb : Nat) (fs : Value) (S rest : List Int) (g : Option Nat) (w : World) (RS : World → List Int → Prop) (D K : Nat → Prop) (t : Nat) (wr : World) (g1 : Option Nat) : Prop where
  sk : Sk wr sb (S ++ rest.take t) fs g1
  rs : RS wr (rest.drop t)
  hg : g1 = g ∨ ∃ k, g1 = some k ∧ w.heap.size ≤ k
  kp : Kp K w wr
  hD : ∀ k, g1 = some k → ¬ D k ∧ k ≠ 1 ∧ ¬ K k

/-- behind grow(512), and the reslice. -/
structure RG (sb : Nat) (fs : Value) (S rest : List Int) (g : Option Nat) (w : World) (RS : World → List Int → Prop) (D K : Nat → Prop) (t L : Nat) (W : World) (g2 cap : Nat) (cur : Array Value) (lr : Int) : Prop where
  bf : Bf W sb (.slice (some ⟨g2, 0, none⟩) L cap) lr fs
  row : W.heap[g2]? = some (.cells cur 5 (0, 0))
  hcs : cur.size = cap
  hln : L + 512 ≤ cap
  hcm : cap ≤ maxLen
  htk : cur.toList.take L = U (S ++ rest.take t)
  hL : L = (S ++ rest.take t).length
  hgs : g2 ≠ sb
  rs : RS W (rest.drop t)
  hg : some g2 = g ∨ w.heap.size ≤ g2
  kp : Kp K w W
  hD : ¬ D g2 ∧ g2 ≠ 1 ∧ ¬ K g2

variable {sb : Nat} {fs rp fin E : Value} {S rest : List Int} {g g1 : Option Nat} {w wr W W' : World} {RS : World → List Int → Prop} {D K : Nat → Prop} {t L g2 cap : Nat} {cur : Array Value} {lr : Int} {F : Nat}

theorem one_lt {W : World} {E : Value} (h : W.cell? ⟨1, 0, none⟩ = some E) : 1 < W.heap.size := by
  by_cases hb : 1 < W.heap.size
  · exact hb
  · simp [World.cell?, Array.getElem?_eq_none (Nat.le_of_not_lt hb)] at h

/-- behind grow(512), then b.buf = b.buf[:i]. -/
theorem RF.grown (hR : Reads F rp fin E RS D) (h : RF sb fs S rest g w RS D K t wr g1) (hDs : ¬ D sb) (hs1 : sb ≠ 1) (hKs : ¬ K sb) (hKlt : ∀ k, K k → k < w.heap.size) (hg : Grown2 sb fs (S ++ rest.take t) g1 512 wr W) :
    ∃ g2 cap cur lr, Bf W sb (.slice (some ⟨g2, 0, none⟩) ((S ++ rest.take t).length + 512) cap) lr fs ∧
      RG sb fs S rest g w RS D K t (S ++ rest.take t).length (W.setCell ⟨sb, 0, none⟩ (.slice (some ⟨g2, 0, none⟩) (S ++ rest.take t).length cap)) g2 cap cur lr := by
  obtain ⟨g2, cap, cur, lr, hb, hrow, hcs, hln, hcm, htk, hgs, hge, hM⟩ := hg
  have h1 := one_lt (hR.eof _ _ h.rs)
  have hsz := h.kp.size
  refine ⟨g2, cap, cur, lr, hb, hb.set0 _, (Below.heap_setCell _ _ _ _ hgs).trans hrow, hcs, hln, hcm, htk, rfl, hgs, ?_, ?_, ?_, ?_⟩
  · refine hR.stab _ _ _ h.rs fun k hk => ?_
    have hks : k ≠ sb := by rintro rfl; rcases hk with hk | hk; exact hDs hk; exact hs1 hk
    refine (Below.heap_setCell _ _ _ _ hks).trans (hM.block k ?_ hks (by simp))
    rcases hk with hk | rfl
    · exact hR.low _ _ k h.rs hk
    · exact h1
  · rcases hge with e | e
    · rcases h.hg with e2 | ⟨k, e2, hk⟩
      · exact .inl (e.trans e2)
      · rw [e2] at e; cases e; exact .inr hk
    · exact .inr (by omega)
  · exact (h.kp.trans (hM.kp fun k hk => ⟨by have := hKlt k hk; omega, fun e => hKs (e ▸ hk), by simp⟩)).setCell hKs _ _
  · rcases hge with e | e
    · exact h.hD g2 e.symm
    · refine ⟨fun hd => ?_, by omega, fun hk => ?_⟩
      · have := hR.low _ _ g2 h.rs hd; omega
      · have := hKlt g2 hk; omega

/-- behind the last Read. -/
theorem RG.last (h : RG sb fs S rest g w RS D K t L W g2 cap cur lr) (hK1 : ∀ k, K k → ¬ D k) (hKlt : ∀ k, K k → k < w.heap.size) (hDs : ¬ D sb) (hKs : ¬ K sb) (hks : Kp (fun k => k < W.heap.size ∧ ¬ D k) W W') :
    Bf W' sb (.slice (some ⟨g2, 0, none⟩) L cap) lr fs ∧ Sk (W'.setCell ⟨sb, 0, none⟩ (.slice (some ⟨g2, 0, none⟩) L cap)) sb (S ++ rest.take t) fs (some g2) ∧ Kp K w (W'.setCell ⟨sb, 0, none⟩ (.slice (some ⟨g2, 0, none⟩) L cap)) := by
  have hb : Bf W' sb (.slice (some ⟨g2, 0, none⟩) L cap) lr fs := (hks.block sb ⟨h.bf.lt, hDs⟩).trans h.bf
  have hz := h.kp.size
  have hlt : g2 < W.heap.size := (Array.getElem?_eq_some_iff.1 h.row).1
  refine ⟨hb, ⟨cap, cur, lr, by rw [← h.hL]; exact hb.set0 _, (Below.heap_setCell _ _ _ _ h.hgs).trans ((hks.block g2 ⟨hlt, h.hD.1⟩).trans h.row), h.hcs, by rw [← h.hL]; have := h.hln; omega, h.hcm, by rw [← h.hL]; exact h.htk, h.hgs⟩, (h.kp.trans (hks.mono fun k hk => ⟨by have := hKlt k hk; omega, hK1 k hk⟩)).setCell hKs _ _⟩

/-- behind a Read that gave m bytes, and b.buf = b.buf[:i+m]. -/
theorem RG.next (h : RG sb fs S rest g w RS D K t L W g2 cap cur lr) (hK1 : ∀ k, K k → ¬ D k) (hKlt : ∀ k, K k → k < w.heap.size) (hDs : ¬ D sb) (hR : Reads F rp fin E RS D) (hs1 : sb ≠ 1) (hKs : ¬ K sb) {m : Nat} (hm : m ≤ cap - L) (hm2 : m ≤ (rest.drop t).length)
    (hrs : RS W' ((rest.drop t).drop m)) (hrow : W'.heap[g2]? = some (.cells (cur.toList.take L ++ U ((rest.drop t).take m) ++ cur.toList.drop (L + m)).toArray 5 (0, 0)))
    (hks : Kp (fun k => k < W.heap.size ∧ ¬ D k ∧ k ≠ g2) W W') :
    Bf W' sb (.slice (some ⟨g2, 0, none⟩) L cap) lr fs ∧ RF sb fs S rest g w RS D K (t + m) (W'.setCell ⟨sb, 0, none⟩ (.slice (some ⟨g2, 0, none⟩) (L + m) cap)) (some g2) := by
  have hb : Bf W' sb (.slice (some ⟨g2, 0, none⟩) L cap) lr fs := (hks.block sb ⟨h.bf.lt, hDs, Ne.symm h.hgs⟩).trans h.bf
  have hz := h.kp.size
  have hln := h.hln
  have hcl : (U ((rest.drop t).take m)).length = m := by rw [U_length, List.length_take]; omega
  have hw := row_written (cs := U ((rest.drop t).take m)) (l := L) (n := m) h.hcs (by omega) hcl hm
  have htake : rest.take (t + m) = rest.take t ++ (rest.drop t).take m := by rw [List.take_add]
  have hLm : (S ++ rest.take (t + m)).length = L + m := by
    rw [htake, ← List.append_assoc, List.length_append, ← h.hL, List.length_take]; omega
  refine ⟨hb, ⟨cap, (cur.toList.take L ++ U ((rest.drop t).take m) ++ cur.toList.drop (L + m)).toArray, lr, by rw [hLm]; exact hb.set0 _, (Below.heap_setCell _ _ _ _ h.hgs).trans hrow, hw.1, by rw [hLm]; omega, h.hcm, ?_, h.hgs⟩, ?_, ?_, ?_, ?_⟩
  · rw [hLm, hw.2, h.htk, htake, ← List.append_assoc, U_append, U_append, U_append]
  · rw [List.drop_drop] at hrs
    refine hR.stab _ _ _ hrs fun k hk => Below.heap_setCell _ _ _ _ ?_
    rintro rfl
    rcases hk with hk | hk
    · exact hDs hk
    · exact hs1 hk
  · rcases h.hg with e | e
    · exact .inl e
    · exact .inr ⟨g2, rfl, e⟩
  · exact (h.kp.trans (hks.mono fun k hk => ⟨by have := hKlt k hk; omega, hK1 k hk, fun e => h.hD.2.2 (e ▸ hk)⟩)).setCell hKs _ _
  · intro k e
    cases e
    exact h.hD

end Go.Proofs.Qxb6613323aDoor.Do
