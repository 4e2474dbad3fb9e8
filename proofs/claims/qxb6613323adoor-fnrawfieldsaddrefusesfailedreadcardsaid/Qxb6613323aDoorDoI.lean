/-
  What ReadFrom needs of a reader ('Reads'); the bytes.Reader is one.
-/
import Derived.Test.Qxb6613323aDoorDoH
namespace Go.Proofs.Qxb6613323aDoor.Do
open Go.ChangeShapes Go.WideShapes Go.ChangeAt Go.RowKit

/-- from w to w' the blocks of K have not turned. -/
structure Kp (K : Nat → Prop) (w w' : World) : Prop where
  os : w'.os = w.os
  tape : w'.tape = w.tape
  output : w'.output = w.output
  size : w.heap.size ≤ w'.heap.size
  block : ∀ k, K k → w'.heap[k]? = w.heap[k]?

theorem Kp.refl (K : Nat → Prop) (w : World) : Kp K w w := ⟨rfl, rfl, rfl, Nat.le_refl _, fun _ _ => rfl⟩
theorem Kp.trans {K : Nat → Prop} {w1 w2 w3 : World} (h : Kp K w1 w2) (k : Kp K w2 w3) : Kp K w1 w3 :=
  ⟨k.os.trans h.os, k.tape.trans h.tape, k.output.trans h.output, Nat.le_trans h.size k.size, fun i hi => (k.block i hi).trans (h.block i hi)⟩
theorem Kp.drewN {K : Nat → Prop} {w w' : World} (h : Kp K w w') (n : Nat) : Kp K w (w'.drewN n) := ⟨h.os, h.tape, h.output, h.size, h.block⟩
theorem Kp.mono {K L : Nat → Prop} {w w' : World} (h : Kp K w w') (hl : ∀ k, L k → K k) : Kp L w w' := ⟨h.os, h.tape, h.output, h.size, fun k hk => h.block k (hl k hk)⟩
theorem Kp.setCell {K : Nat → Prop} {w w' : World} (h : Kp K w w') {b : Nat} (hb : ¬ K b) (i : Nat) (v : Value) : Kp K w (w'.setCell ⟨b, i, none⟩ v) :=
  h.trans ⟨rfl, rfl, rfl, by simp [World.setCell], fun k hk => Below.heap_setCell _ _ _ _ (fun e => hb (by have e2 : k = b := e; rw [← e2]; exact hk))⟩
theorem Mv.kp {K : Nat → Prop} {b : Nat} {o : Option Nat} {w w' : World} (h : Mv b o w w') (hk : ∀ k, K k → k < w.heap.size ∧ k ≠ b ∧ some k ≠ o) : Kp K w w' :=
  ⟨h.os, h.tape, h.output, h.size, fun k hK => h.block k (hk k hK).1 (hk k hK).2.1 (hk k hK).2.2⟩

/-- a reader: 'RS w rest' says that it stands in w with the bytes 'rest' to give; its own blocks are those of D; behind its last byte it answers 'fin'. -/
structure Reads (F : Nat) (rp fin E : Value) (RS : World → List Int → Prop) (D : Nat → Prop) : Prop where
  stab : ∀ w w' rest, RS w rest → (∀ k, D k ∨ k = 1 → w'.heap[k]? = w.heap[k]?) → RS w' rest
  low : ∀ w rest k, RS w rest → D k → k < w.heap.size
  eof : ∀ w rest, RS w rest → w.cell? ⟨1, 0, none⟩ = some E
  done : ∀ w g o dl dc cur, RS w [] → ¬ D g → g ≠ 1 → w.heap[g]? = some (.cells cur 5 (0, 0)) → o + dl ≤ cur.size → 1 ≤ dl → cur.size ≤ maxLen →
    Calls Tryd.prog F #[rp, .slice (some ⟨g, o, none⟩) dl dc] w fun e w' => e = .returned (.tuple #[.int .i64 0, fin]) ∧ RS w' [] ∧ Kp (fun k => k < w.heap.size ∧ ¬ D k) w w'
  more : ∀ w rest g o dl dc cur, RS w rest → rest ≠ [] → ¬ D g → g ≠ 1 → w.heap[g]? = some (.cells cur 5 (0, 0)) → o + dl ≤ cur.size → 1 ≤ dl → cur.size ≤ maxLen →
    Calls Tryd.prog F #[rp, .slice (some ⟨g, o, none⟩) dl dc] w fun e w' => ∃ m : Nat, e = .returned (.tuple #[.int .i64 m, .nilIface]) ∧ 1 ≤ m ∧ m ≤ dl ∧ m ≤ rest.length ∧ RS w' (rest.drop m) ∧
      w'.heap[g]? = some (.cells (cur.toList.take o ++ U (rest.take m) ++ cur.toList.drop (o + m)).toArray 5 (0, 0)) ∧ Kp (fun k => k < w.heap.size ∧ ¬ D k ∧ k ≠ g) w w'

/-- the bytes.Reader in block rb over the slice of l in block vb: what is left to read. -/
def BR (rb : Nat) (a : Option Addr) (l : List Int) (c : Nat) (E : Value) (w : World) (rest : List Int) : Prop :=
  ∃ i pr, i ≤ l.length ∧ rest = l.drop i ∧ Rr w rb (.slice a l.length c) (i : Nat) pr ∧ Rd w a l ∧ (∀ b o, a = some ⟨b, o, none⟩ → l ≠ [] → b ≠ rb) ∧ w.cell? ⟨1, 0, none⟩ = some E ∧ l.length ≤ c ∧ l.length ≤ 1048576 ∧ rb ≠ 1

/-- its own blocks: the Reader, and the row of its slice. -/
def BD (rb : Nat) (a : Option Addr) (l : List Int) (k : Nat) : Prop := k = rb ∨ l ≠ [] ∧ ∃ o, a = some ⟨k, o, none⟩

theorem Rd.same {w w' : World} {a : Option Addr} {l : List Int} (h : Rd w a l) (hk : ∀ k o, a = some ⟨k, o, none⟩ → l ≠ [] → w'.heap[k]? = w.heap[k]?) : Rd w' a l := by
  rcases h with h | ⟨b, o, e, hc⟩
  · exact .inl h
  · by_cases hl : l = []
    · exact .inl hl
    · exact .inr ⟨b, o, e, fun i hi => (World.cell?_of_block (w := w) (hk b o e hl)).trans (hc i hi)⟩

theorem reads47 (rb : Nat) (a : Option Addr) (l : List Int) (c : Nat) (E : Value) : Reads 47 (.pointer (some ⟨rb, 0, none⟩)) E E (BR rb a l c E) (BD rb a l) := by
  refine ⟨?_, ?_, ?_, ?_, ?_⟩
  · rintro w w' rest ⟨i, pr, h1, h2, h3, h4, h5, h6, h7⟩ hk
    refine ⟨i, pr, h1, h2, (hk rb (.inl (.inl rfl))).trans h3, h4.same (fun k o e hl => hk k (.inl (.inr ⟨hl, o, e⟩))), h5, (World.cell?_of_block (w := w) (hk 1 (.inr rfl))).trans h6, h7⟩
  · rintro w rest k ⟨i, pr, h1, h2, h3, h4, h5, h6, h7⟩ hk
    rcases hk with rfl | ⟨hl, o, rfl⟩
    · exact h3.lt
    · exact h4.lt hl
  · rintro w rest ⟨i, pr, h1, h2, h3, h4, h5, h6, h7⟩
    exact h6
  · rintro w g o dl dc cur ⟨i, pr, h1, h2, h3, h4, h5, h6, h7, h8, h9⟩ hD hg1 hg hfit hdl hcm
    have hle : l.length ≤ i := by
      have := congrArg List.length h2
      rw [List.length_drop, List.length_nil] at this
      omega
    refine (read_eof rb a l.length c i pr _ E w h3 h6 hle).mono ?_
    rintro e w' ⟨rfl, k, rfl⟩
    exact ⟨rfl, ⟨i, pr, h1, h2, h3, h4, h5, h6, h7, h8, h9⟩, (Kp.refl _ _).drewN k⟩
  · rintro w rest g o dl dc cur ⟨i, pr, h1, h2, h3, h4, h5, h6, h7, h8, h9⟩ hne hD hg1 hg hfit hdl hcm
    subst h2
    have hlt : i < l.length := by
      rcases Nat.lt_or_ge i l.length with h | h
      · exact h
      · exact absurd (List.drop_eq_nil_of_le h) hne
    have hln : l ≠ [] := fun e => by rw [e] at hlt; cases hlt
    rcases h4 with h4 | ⟨vb, vo, rfl, hc⟩
    · exact absurd h4 hln
    have hvr : vb ≠ rb := h5 vb vo rfl hln
    have hgr : g ≠ rb := fun e => hD (.inl e)
    have hgv : vb ≠ g := fun e => hD (.inr ⟨hln, vo, by rw [e]⟩)
    obtain ⟨m, hm⟩ : ∃ m, m = Nat.min (l.length - i) dl := ⟨_, rfl⟩
    have hm1 : m ≤ l.length - i := hm ▸ Nat.min_le_left _ _
    have hm2 : m ≤ dl := hm ▸ Nat.min_le_right _ _
    have hm3 : 1 ≤ m := by rw [hm]; show 1 ≤ min (l.length - i) dl; omega
    have hcl : (U ((l.drop i).take m)).length = m := by rw [U_length, List.length_take, List.length_drop]; omega
    have hrun : ∀ W : World, (∀ k, k ≠ rb → W.heap[k]? = w.heap[k]?) → (Builtin.copy_ #[22, 22] 3 #[.slice (some ⟨g, o, none⟩) dl dc, .slice (some ⟨vb, vo + i, none⟩) (l.length - i) (c - i)]).run Tryd.prog W =
        .ok (goInt m) (W.setRow g (cur.toList.take o ++ U ((l.drop i).take m) ++ cur.toList.drop (o + m)).toArray) := by
      intro W hW
      have hr := run_copy_row (P := Tryd.prog) W 22 22 3 5 g o dl dc ⟨vb, vo + i, none⟩ (l.length - i) (c - i) cur 5 (U ((l.drop i).take m)) Tryd.underlying22 size5 ((hW g hgr).trans hg) (by rw [hcl, hm]) (by
        intro j v hj
        have hjm : j < m := by have := (List.getElem?_eq_some_iff.1 hj).1; rwa [hcl] at this
        rw [U_get _ j (by rw [List.length_take, List.length_drop]; omega)] at hj
        have hb : bt ((l.drop i).take m) j = bt l (i + j) := by
          unfold bt
          rw [List.getD_eq_getElem?_getD, List.getD_eq_getElem?_getD, List.getElem?_take_of_lt hjm, List.getElem?_drop]
        rw [hb] at hj
        cases hj
        rw [Addr.add_lit, Nat.add_assoc]
        exact (World.cell?_of_block (w := w) (hW vb hvr)).trans (hc (i + j) (by omega))) (by rw [hcl]; omega) (U_one _)
      rw [hcl, List.append_assoc] at hr
      rw [List.append_assoc]
      exact hr
    refine (read_some rb vb vo l.length c i g o dl dc pr w m _ cur h3 hlt h7 h8 (by omega) hg hgr hrun).mono ?_
    rintro e w' ⟨rfl, hR, hG, hM⟩
    refine ⟨m, rfl, hm3, hm2, by rw [List.length_drop]; exact hm1, ⟨i + m, -1, by omega, by rw [List.drop_drop], by simpa using hR, ?_, h5, ?_, h7, h8, h9⟩, hG, ?_⟩
    · refine .inr ⟨vb, vo, rfl, fun j hj => ?_⟩
      have h0 := hc j hj
      have hb : vb < w.heap.size := by
        by_cases hb : vb < w.heap.size
        · exact hb
        · simp [World.cell?, Array.getElem?_eq_none (Nat.le_of_not_lt hb)] at h0
      exact (World.cell?_of_block (w := w) (hM.block vb hb hvr (by simpa using hgv))).trans h0
    · have hb : 1 < w.heap.size := by
        by_cases hb : 1 < w.heap.size
        · exact hb
        · simp [World.cell?, Array.getElem?_eq_none (Nat.le_of_not_lt hb)] at h6
      exact (World.cell?_of_block (w := w) (hM.block 1 hb (Ne.symm h9) (by simpa using Ne.symm hg1))).trans h6
    · exact hM.kp fun k hk => ⟨hk.1, fun e => hk.2.1 (.inl e), by simpa using hk.2.2⟩

end Go.Proofs.Qxb6613323aDoor.Do
