/-
  The walk of FnRawFieldsAddKeepsBothFields (3): the second slice nil.
-/
import Derived.Test.Qxb6613323aDoorDoO
namespace Go.Proofs.Qxb6613323aDoor.Do
open Go.ChangeShapes Go.WideShapes Go.ChangeAt Go.RowKit
set_option linter.unusedSimpArgs false
set_option linter.unusedVariables false

set_option maxRecDepth 100000 in
set_option maxHeartbeats 8000000 in
theorem keeps_sn (s1 s2 : ByteArray) (l1 l2 : List Int) (m1 m2 c1 c2 : Nat) (w : World) (x1 : Addr) (e1 : l1.length = m1) (e2 : l2.length = m2) (h1 : (s1.size : Int) ≤ 65536) (h2 : (m1 : Int) ≤ 65536) (h3 : (s2.size : Int) ≤ 65536) (h4 : (m2 : Int) ≤ 65536) (r1 : SA w x1 l1) (n2 : m2 = 0) (k2 : c2 = 0) (hN1 : 1 < w.heap.size) (tE : TypeId) (aE : Addr) (hE : w.cell? ⟨1, 0, none⟩ = some (.iface tE (.pointer (some aE))))
    (hq1 : ∀ W, (binOp .eql 34 (.iface tE (.pointer (some aE))) (.iface tE (.pointer (some aE)))).run Tryd.prog W = .ok (.bool true) W)
    (hq2 : ∀ W, (binOp .eql 34 .nilIface (.iface tE (.pointer (some aE)))).run Tryd.prog W = .ok (.bool false) W) :
    Calls Tryd.prog 3 #[.string s1, .slice (some x1) m1 c1, .string s2, .slice none m2 c2] w fun e w' => e = .returned (.bool true) ∧ Below w.heap.size w w' := by
  have q22 : ∀ (w : World) (a : Option Addr) (n c n' c' : Nat), (binOp .neq 22 (.slice a n c) (.slice none n' c')).run Tryd.prog w = .ok (.bool (!a.isNone)) w := fun w a n c n' c' => run_neq_slice_nil_any w _ _ a n c n' c' Tryd.underlying22
  subst n2 k2
  obtain ⟨WA, WB, hmk1, hcp1, rB, bB⟩ := copiedSA w x1 m1 c1 l1 (by omega) e1 r1
  have szB : w.heap.size < WB.heap.size ∨ l1 = [] := by
    by_cases hl : l1 = []
    · exact .inr hl
    · exact .inl (rB.lt hl)
  obtain rfl : l2 = [] := List.eq_nil_of_length_eq_zero e2
  have bD : Below WB.heap.size WB WB := Below.refl _ _
  have rD2 : Rd WB none ([] : List Int) := .inl rfl
  have rD1 : Rd WB (some ⟨w.heap.size, 0, none⟩) l1 := rB.later bD
  have bwD : Below w.heap.size w WB := bB.trans (bD.mono bB.size)
  have E1 : Hid ((l1).length = m1) := e1
  have E2 : Hid ((([] : List Int)).length = 0) := e2
  have RD1 : Hid (Rd WB (some ⟨w.heap.size, 0, none⟩) l1) := rD1
  have RD2 : Hid (Rd WB none ([] : List Int)) := rD2
  have BD0 : Hid (Below w.heap.size w WB) := bwD
  have HE : Hid (w.cell? ⟨1, 0, none⟩ = some (.iface tE (.pointer (some aE)))) := hE
  have HQ1 : Hid (∀ W, (binOp .eql 34 (.iface tE (.pointer (some aE))) (.iface tE (.pointer (some aE)))).run Tryd.prog W = .ok (.bool true) W) := hq1
  have HQ2 : Hid (∀ W, (binOp .eql 34 .nilIface (.iface tE (.pointer (some aE)))).run Tryd.prog W = .ok (.bool false) W) := hq2
  have HDIS : Hid (∀ b o o', (some ⟨w.heap.size, 0, none⟩) = some (⟨b, o, none⟩ : Addr) → none = some (⟨b, o', none⟩ : Addr) → l1 = [] ∨ ([] : List Int) = []) := by
    intro b o o' y1 y2
    cases y2
  have HX1 : Hid (∀ b o, (some ⟨w.heap.size, 0, none⟩) = some (⟨b, o, none⟩ : Addr) → w.heap.size ≤ b) := by
    intro b o e
    cases e; exact Nat.le_refl _
  have HX2 : Hid (∀ b o, none = some (⟨b, o, none⟩ : Addr) → w.heap.size ≤ b) := by
    intro b o e
    cases e
  clear e1 e2 r1 rB szB rD1 rD2 bwD hE hq1 hq2 bB bD
  go_enter Tryd.func3, Tryd.ntmps3
  go_wp2_with fail
  refine Calls.mono (bytes5_yes s1 s2 _ _ _ _ _ _ w h1 (by omega) h3 (by omega)) ?_
  rintro e w' ⟨rfl, rfl⟩
  go_wp2_with fail
  refine Calls.mono (strbytes7 s1 _ (by omega)) ?_
  rintro e V1 ⟨rfl, hr1, hb1⟩
  have R1 : Hid (Rd V1 (some ⟨WB.heap.size, 0, none⟩) (bl s1)) := hr1
  have B1 : Hid (Below WB.heap.size WB V1) := hb1
  clear hr1 hb1
  go_wp2_with fail
  refine Calls.mono (cat6n _ (some ⟨w.heap.size, 0, none⟩) s1.size m1 _ _ (bl s1) l1 V1 (bl_length s1) E1.out (by omega) (by omega) R1.out (RD1.out.later B1.out)) ?_
  rintro e V2 ⟨rfl, hr2, hb2⟩
  have R2 : Hid (Rd V2 (some ⟨V1.heap.size, 0, none⟩) (bl s1 ++ l1)) := hr2
  have B2 : Hid (Below WB.heap.size WB V2) := B1.out.trans (hb2.mono B1.out.size)
  clear hr2 hb2
  go_wp2_with fail
  refine Calls.mono (strbytes7 s2 _ (by omega)) ?_
  rintro e V3 ⟨rfl, hr3, hb3⟩
  have R3 : Hid (Rd V3 (some ⟨V2.heap.size, 0, none⟩) (bl s2)) := hr3
  have R2b : Hid (Rd V3 (some ⟨V1.heap.size, 0, none⟩) (bl s1 ++ l1)) := R2.out.later hb3
  have B3 : Hid (Below WB.heap.size WB V3) := B2.out.trans (hb3.mono B2.out.size)
  clear hr3 hb3
  go_wp2_with fail
  refine Calls.mono (cat6n _ none s2.size 0 _ _ (bl s2) ([] : List Int) V3 (bl_length s2) E2.out (by omega) (by omega) R3.out (RD2.out.later B3.out)) ?_
  rintro e V4 ⟨rfl, hr4, hb4⟩
  have R4 : Hid (Rd V4 (some ⟨V3.heap.size, 0, none⟩) (bl s2 ++ ([] : List Int))) := hr4
  have R2c : Hid (Rd V4 (some ⟨V1.heap.size, 0, none⟩) (bl s1 ++ l1)) := R2b.out.later hb4
  have B4 : Hid (Below WB.heap.size WB V4) := B3.out.trans (hb4.mono B3.out.size)
  clear hr4 hb4
  go_wp2_with fail
  refine Calls.mono (cat6n _ _ (s1.size + m1) (s2.size + 0) _ _ (bl s1 ++ l1) (bl s2 ++ ([] : List Int)) V4 (by rw [List.length_append, bl_length, E1.out]) (by rw [List.length_append, bl_length, E2.out]) (by omega) (by omega) R2c.out R4.out) ?_
  rintro e V5 ⟨rfl, hr5, hb5⟩
  have B5 : Hid (Below WB.heap.size WB V5) := B4.out.trans (hb5.mono B4.out.size)
  have ST0 : Hid (St w.heap.size w V5.heap.size [] 0 [] (.iface tE (.pointer (some aE))) [((some ⟨w.heap.size, 0, none⟩), l1), (none, ([] : List Int)), (some ⟨V4.heap.size, 0, none⟩, bl s1 ++ l1 ++ (bl s2 ++ ([] : List Int)))] (V5.alloc (.cells #[.slice none 0 0, .int .i64 0, .int .i8 0, .slice none 0 0] 32))) := by
    have hbw : Below w.heap.size w V5 := BD0.out.trans (B5.out.mono BD0.out.size)
    refine St.new hbw.size ?_ ((World.cell?_of_block (w := w) (hbw.block 1 hN1)).trans HE.out) hbw
    intro r hm
    simp only [List.mem_cons, List.not_mem_nil, or_false] at hm
    rcases hm with rfl | rfl | rfl
    · exact ⟨RD1.out.later B5.out, fun b o e _ => HX1.out b o e⟩
    · exact ⟨RD2.out.later B5.out, fun b o e _ => HX2.out b o e⟩
    · refine ⟨hr5, fun b o e _ => ?_⟩
      cases e
      exact Nat.le_trans BD0.out.size B4.out.size
  have ND : Hid (w.heap.size ≤ WB.heap.size ∧ WB.heap.size ≤ V4.heap.size) := ⟨BD0.out.size, B4.out.size⟩
  have HXL1 : Hid (∀ b o, (some ⟨w.heap.size, 0, none⟩) = some (⟨b, o, none⟩ : Addr) → l1 ≠ [] → b < V4.heap.size) := by
    intro b o e hl
    have h2 := RD1.out
    rw [e] at h2
    exact Nat.lt_of_lt_of_le (h2.lt hl) B4.out.size
  have HXL2 : Hid (∀ b o, none = some (⟨b, o, none⟩ : Addr) → ([] : List Int) ≠ [] → b < V4.heap.size) := by
    intro b o e hl
    have h2 := RD2.out
    rw [e] at h2
    exact Nat.lt_of_lt_of_le (h2.lt hl) B4.out.size
  clear hr5 hb5 R1 R2 R3 R4 R2b R2c B1 B2 B3 B4 B5 RD1 RD2 BD0 HE
  go_wp2_with fail
  have C1 : Hid (Calls Tryd.prog 8 #[.pointer (some ⟨V5.heap.size, 0, none⟩), .string s1, .slice (some ⟨w.heap.size, 0, none⟩) m1 m1] (V5.alloc (.cells #[.slice none 0 0, .int .i64 0, .int .i8 0, .slice none 0 0] 32)) fun e w' => e = .returned .nilIface ∧ St w.heap.size w V5.heap.size ([] ++ bl s1 ++ l1) 1 ([] ++ F4 0 (0 + s1.size) (0 + s1.size) (0 + s1.size + m1)) (.iface tE (.pointer (some aE))) [(none, ([] : List Int)), (some ⟨V4.heap.size, 0, none⟩, bl s1 ++ l1 ++ (bl s2 ++ ([] : List Int)))] w') := by
    refine Calls.mono (ST0.out.add s1 m1 m1 E1.out (Nat.le_refl _) hN1 ?_ HQ1.out HQ2.out (by omega) (by simp; omega)) ?_
    · intro r hm b o o' y1 y2
      simp only [List.mem_cons, List.not_mem_nil, or_false] at hm
      rcases hm with rfl | rfl
      · first | exact HDIS.out b o o' y1 y2 | exact .inr rfl | exact .inl rfl
      · by_cases hl : l1 = []
        · exact .inl hl
        · have := HXL1.out b o y1 hl
          cases y2
          omega
    · rintro e w' ⟨he, hs⟩
      exact ⟨he, hs⟩
  refine Calls.mono C1.out ?_
  rintro e W1 ⟨rfl, st1⟩
  have ST1 : Hid (St w.heap.size w V5.heap.size ([] ++ bl s1 ++ l1) 1 ([] ++ F4 0 (0 + s1.size) (0 + s1.size) (0 + s1.size + m1)) (.iface tE (.pointer (some aE))) [(none, ([] : List Int)), (some ⟨V4.heap.size, 0, none⟩, bl s1 ++ l1 ++ (bl s2 ++ ([] : List Int)))] W1) := st1
  clear st1 C1 ST0
  have HLEN : Hid (([] ++ bl s1 ++ l1).length = s1.size + m1) := by
    show _ = _
    rw [List.nil_append, List.length_append, bl_length, E1.out]
  have C2 : Hid (Calls Tryd.prog 8 #[.pointer (some ⟨V5.heap.size, 0, none⟩), .string s2, .slice none 0 0] W1 fun e w' => e = .returned .nilIface ∧ ∃ xs, St w.heap.size w V5.heap.size (bl s1 ++ l1 ++ (bl s2 ++ ([] : List Int))) 2 xs (.iface tE (.pointer (some aE))) [(some ⟨V4.heap.size, 0, none⟩, bl s1 ++ l1 ++ (bl s2 ++ ([] : List Int)))] w' ∧
      xs = [.int .i64 0, .int .i64 s1.size, .int .i64 s1.size, .int .i64 ((s1.size : Int) + (m1 : Nat)), .int .i64 ((s1.size : Int) + (m1 : Nat)), .int .i64 ((s1.size : Int) + (m1 : Nat) + s2.size), .int .i64 ((s1.size : Int) + (m1 : Nat) + s2.size), .int .i64 ((s1.size : Int) + (m1 : Nat) + s2.size + (0 : Nat))]) := by
    refine Calls.mono (ST1.out.add s2 0 0 E2.out (Nat.le_refl _) hN1 ?_ HQ1.out HQ2.out (by omega) (by rw [HLEN.out]; omega)) ?_
    · intro r hm b o o' y1 y2
      simp only [List.mem_cons, List.not_mem_nil, or_false] at hm
      subst hm
      by_cases hl : ([] : List Int) = []
      · exact .inl hl
      · have := HXL2.out b o y1 hl
        cases y2
        omega
    · rintro e w' ⟨he, hs⟩
      rw [HLEN.out] at hs
      refine ⟨he, _, ?_, rfl⟩
      have e0 : ([] ++ bl s1 ++ l1 ++ bl s2 ++ ([] : List Int) : List Int) = bl s1 ++ l1 ++ (bl s2 ++ ([] : List Int)) := by simp [List.append_assoc]
      rw [e0] at hs
      have e9 : ([] ++ F4 0 (0 + s1.size) (0 + s1.size) (0 + s1.size + (m1 : Nat)) ++ F4 ((s1.size + m1 : Nat) : Int) ((s1.size + m1 : Nat) + s2.size) ((s1.size + m1 : Nat) + s2.size) ((s1.size + m1 : Nat) + s2.size + (0 : Nat))) = [.int .i64 0, .int .i64 s1.size, .int .i64 s1.size, .int .i64 ((s1.size : Int) + (m1 : Nat)), .int .i64 ((s1.size : Int) + (m1 : Nat)), .int .i64 ((s1.size : Int) + (m1 : Nat) + s2.size), .int .i64 ((s1.size : Int) + (m1 : Nat) + s2.size), .int .i64 ((s1.size : Int) + (m1 : Nat) + s2.size + (0 : Nat))] := by
        simp [F4]
      rw [← e9]
      exact hs
  go_wp2_with fail
  refine Calls.mono C2.out ?_
  rintro e W2 ⟨rfl, xs, st2, hxs⟩
  obtain ⟨g, fs, hAD, hgt, hrs, hEE, hBel⟩ := st2
  subst hxs
  have HRW : Hid (Rd W2 (some ⟨V4.heap.size, 0, none⟩) (bl s1 ++ l1 ++ (bl s2 ++ ([] : List Int)))) := (hrs _ (List.mem_singleton.2 rfl)).1
  have HBEL : Hid (Below w.heap.size w W2) := hBel
  have HA : Hid (AD w.heap.size W2 V5.heap.size (bl s1 ++ l1 ++ (bl s2 ++ ([] : List Int))) g fs 2 [.int .i64 0, .int .i64 s1.size, .int .i64 s1.size, .int .i64 ((s1.size : Int) + (m1 : Nat)), .int .i64 ((s1.size : Int) + (m1 : Nat)), .int .i64 ((s1.size : Int) + (m1 : Nat) + s2.size), .int .i64 ((s1.size : Int) + (m1 : Nat) + s2.size), .int .i64 ((s1.size : Int) + (m1 : Nat) + s2.size + (0 : Nat))]) := hAD
  clear hAD hgt hrs hEE hBel C2 ST1
  go_wp2_with fail
  refine Calls.mono (count9 HA.out) ?_
  rintro e w' ⟨rfl, rfl⟩
  go_wp2_with fail
  refine Calls.mono (raw11 HA.out.sk) ?_
  rintro e w' ⟨ra, rc, rfl, hrr, q1, rfl⟩
  have HRR : Hid (Rd W2 ra (bl s1 ++ l1 ++ (bl s2 ++ ([] : List Int)))) := hrr
  have HLA : Hid ((bl s1 ++ l1 ++ (bl s2 ++ ([] : List Int))).length = s1.size + m1 + (s2.size + 0)) := by
    show _ = _
    have q1 := E1.out
    have q2 := E2.out
    simp only [List.length_append, bl_length, List.length_nil] <;> omega
  clear hrr
  go_wp2_with fail
  refine Calls.mono (eq10n ra _ _ _ rc _ (bl s1 ++ l1 ++ (bl s2 ++ ([] : List Int))) _ (by first | rfl | (simp only [List.length_append, List.length_nil]; omega)) HLA.out (by have h := HLA.out; simp only [List.length_append, List.length_nil] at h; omega) (HRR.out.drewN q1) (HRW.out.drewN q1)) ?_
  rintro e w' ⟨rfl, q2, rfl⟩
  have HA3 : Hid (AD w.heap.size (W2.drewN (q1 + q2)) V5.heap.size (bl s1 ++ l1 ++ (bl s2 ++ ([] : List Int))) g fs 2 [.int .i64 0, .int .i64 s1.size, .int .i64 s1.size, .int .i64 ((s1.size : Int) + (m1 : Nat)), .int .i64 ((s1.size : Int) + (m1 : Nat)), .int .i64 ((s1.size : Int) + (m1 : Nat) + s2.size), .int .i64 ((s1.size : Int) + (m1 : Nat) + s2.size), .int .i64 ((s1.size : Int) + (m1 : Nat) + s2.size + (0 : Nat))]) := HA.out.same (Nat.le_refl _) (fun _ _ => rfl)
  go_wp2_with fail
  refine Calls.mono (field12_0 HA3.out _ _ _ _ rfl rfl rfl rfl) ?_
  rintro e W3 ⟨rfl, hb3⟩
  have HA4 : Hid (AD w.heap.size W3 V5.heap.size (bl s1 ++ l1 ++ (bl s2 ++ ([] : List Int))) g fs 2 [.int .i64 0, .int .i64 s1.size, .int .i64 s1.size, .int .i64 ((s1.size : Int) + (m1 : Nat)), .int .i64 ((s1.size : Int) + (m1 : Nat)), .int .i64 ((s1.size : Int) + (m1 : Nat) + s2.size), .int .i64 ((s1.size : Int) + (m1 : Nat) + s2.size), .int .i64 ((s1.size : Int) + (m1 : Nat) + s2.size + (0 : Nat))]) := by
    refine HA3.out.same hb3.size ?_
    rintro k (rfl | e | e)
    · exact hb3.block _ HA3.out.sk.lt
    · exact hb3.block k (HA3.out.row_lt k e)
    · exact hb3.block k (HA3.out.own.lt k e).2
  have HB3 : Hid (Below w.heap.size w W3) := (below_drewN HBEL.out (q1 + q2)).trans (hb3.mono HBEL.out.size)
  clear hb3
  go_wp2_with fail
  refine Calls.mono (field12_1 HA4.out _ _ _ _ rfl rfl rfl rfl) ?_
  rintro e W4 ⟨rfl, hb4⟩
  have HB4 : Hid (Below w.heap.size w W4) := HB3.out.trans (hb4.mono HB3.out.size)
  clear hb4
  go_wp2_with fail
  go_ret
  exact ⟨rfl, HB4.out⟩

end Go.Proofs.Qxb6613323aDoor.Do
