/-
  The walk of FnRawFieldsAddRefusesFailedRead (4): slice 1 nil, slice 2 not nil, slice 3 nil.
-/
import Derived.Test.Qxb6613323aDoorEaC
namespace Go.Proofs.Qxb6613323aDoor.Do
open Go.ChangeShapes Go.WideShapes Go.ChangeAt Go.RowKit
set_option linter.unusedSimpArgs false
set_option linter.unusedVariables false

set_option maxRecDepth 100000 in
set_option maxHeartbeats 16000000 in
theorem refuses_nsn (s1 s2 s3 : ByteArray) (l1 l2 l3 : List Int) (m1 m2 m3 c1 c2 c3 : Nat) (w : World) (x2 : Addr) (e1 : l1.length = m1) (e2 : l2.length = m2) (e3 : l3.length = m3) (h1 : (s1.size : Int) ≤ 65536) (h2 : (m1 : Int) ≤ 65536) (h3 : (s2.size : Int) ≤ 65536) (h4 : (m2 : Int) ≤ 65536) (h5 : (s3.size : Int) ≤ 65536) (h6 : (m3 : Int) ≤ 65536) (n1 : m1 = 0) (k1 : c1 = 0) (r2 : SA w x2 l2) (n3 : m3 = 0) (k3 : c3 = 0) (hN1 : 1 < w.heap.size) (aE : Addr) (ca : Array Value) (ta : TypeId) (hE : w.cell? ⟨1, 0, none⟩ = some (.iface 73 (.pointer (some aE)))) (hee : w.heap[aE.block]? = some (.cells ca ta (0, 0)))
    (hq1 : ∀ W, (binOp .eql 34 (.iface 73 (.pointer (some aE))) (.iface 73 (.pointer (some aE)))).run Tryd.prog W = .ok (.bool true) W)
    (hq2 : ∀ W, (binOp .eql 34 .nilIface (.iface 73 (.pointer (some aE)))).run Tryd.prog W = .ok (.bool false) W) :
    Calls Tryd.prog 4 #[.string s1, .slice none m1 c1, .string s2, .slice (some x2) m2 c2, .string s3, .slice none m3 c3] w fun e w' => e = .returned (.bool true) ∧ Below w.heap.size w w' := by
  have q22 : ∀ (w : World) (a : Option Addr) (n c n' c' : Nat), (binOp .neq 22 (.slice a n c) (.slice none n' c')).run Tryd.prog w = .ok (.bool (!a.isNone)) w := fun w a n c n' c' => run_neq_slice_nil_any w _ _ a n c n' c' Tryd.underlying22
  subst n1 k1
  obtain rfl : l1 = [] := List.eq_nil_of_length_eq_zero e1
  subst n3 k3
  obtain rfl : l3 = [] := List.eq_nil_of_length_eq_zero e3
  have bw0 : Below w.heap.size w w := Below.refl _ _
  have rX1 : Rd w none ([] : List Int) := .inl rfl
  have bX1 : Below w.heap.size w w := Below.refl _ _
  have bw1 : Below w.heap.size w w := bw0
  have rs2 : SA w x2 l2 := r2.later bw1
  obtain ⟨WA2, WB2, hmk2, hcp2, rX2, bX2⟩ := copiedSA w x2 m2 c2 l2 (by omega) e2 rs2
  have bw2 : Below w.heap.size w WB2 := bw1.trans (bX2.mono bw1.size)
  have rX3 : Rd WB2 none ([] : List Int) := .inl rfl
  have bX3 : Below WB2.heap.size WB2 WB2 := Below.refl _ _
  have bw3 : Below w.heap.size w WB2 := bw2
  have RX1 : Hid (Rd WB2 none ([] : List Int)) := (rX1.later bX2).later bX3
  have RX2 : Hid (Rd WB2 (some ⟨w.heap.size, 0, none⟩) l2) := rX2.later bX3
  have RX3 : Hid (Rd WB2 none ([] : List Int)) := rX3
  have BD0 : Hid (Below w.heap.size w WB2) := bw3
  have Z : Hid (w.heap.size ≤ w.heap.size ∧ w.heap.size ≤ WB2.heap.size ∧ WB2.heap.size ≤ WB2.heap.size) := ⟨bX1.size, bX2.size, bX3.size⟩
  have I1 : Hid (∀ b o, none = some (⟨b, o, none⟩ : Addr) → ([] : List Int) ≠ [] → w.heap.size ≤ b ∧ b < w.heap.size) := by
    intro b o e hl
    cases e
  have I2 : Hid (∀ b o, (some ⟨w.heap.size, 0, none⟩) = some (⟨b, o, none⟩ : Addr) → l2 ≠ [] → w.heap.size ≤ b ∧ b < WB2.heap.size) := by
    intro b o e hl
    simp only [Option.some.injEq, Addr.mk.injEq] at e
    obtain ⟨rfl, rfl, _⟩ := e
    exact ⟨Nat.le_refl _, rX2.lt hl⟩
  have I3 : Hid (∀ b o, none = some (⟨b, o, none⟩ : Addr) → ([] : List Int) ≠ [] → WB2.heap.size ≤ b ∧ b < WB2.heap.size) := by
    intro b o e hl
    cases e
  have E1 : Hid ((([] : List Int)).length = 0) := e1
  have E2 : Hid ((l2).length = m2) := e2
  have E3 : Hid ((([] : List Int)).length = 0) := e3
  have HE : Hid (w.cell? ⟨1, 0, none⟩ = some (.iface 73 (.pointer (some aE)))) := hE
  have HEE : Hid (w.heap[aE.block]? = some (.cells ca ta (0, 0))) := hee
  have HQ1 : Hid (∀ W, (binOp .eql 34 (.iface 73 (.pointer (some aE))) (.iface 73 (.pointer (some aE)))).run Tryd.prog W = .ok (.bool true) W) := hq1
  have HQ2 : Hid (∀ W, (binOp .eql 34 .nilIface (.iface 73 (.pointer (some aE)))).run Tryd.prog W = .ok (.bool false) W) := hq2
  clear e1 e2 e3 r2 rs2 rX1 rX2 rX3 bX1 bX2 bX3 bw0 bw1 bw2 bw3 hE hee hq1 hq2
  go_enter Tryd.func4, Tryd.ntmps4
  go_wp2_with fail
  refine Calls.mono (bytes13_yes s1 s2 s3 _ _ _ _ _ _ _ _ _ w h1 (by omega) h3 (by omega) h5 (by omega)) ?_
  rintro e w' ⟨rfl, rfl⟩
  go_wp2_with fail
  refine Calls.mono (strbytes7 s1 _ (by omega)) ?_
  rintro e V1 ⟨rfl, hr1, hb1⟩
  have R1 : Hid (Rd V1 (some ⟨WB2.heap.size, 0, none⟩) (bl s1)) := hr1
  have B1 : Hid (Below WB2.heap.size WB2 V1) := hb1
  clear hr1 hb1
  go_wp2_with fail
  refine Calls.mono (strbytes7 s3 _ (by omega)) ?_
  rintro e V2 ⟨rfl, hr2, hb2⟩
  have R2 : Hid (Rd V2 (some ⟨V1.heap.size, 0, none⟩) (bl s3)) := hr2
  have B12 : Hid (Below V1.heap.size V1 V2) := hb2
  clear hr2 hb2
  go_wp2_with fail
  refine Calls.mono (clone_nil V2) ?_
  rintro e V3 ⟨rfl, hV3⟩
  have RC3 : Hid (Rd V3 none ([] : List Int)) := .inl rfl
  have B23 : Hid (Below V2.heap.size V2 V3) := by rw [← hV3]; exact Below.refl _ _
  clear hV3
  go_wp2_with fail
  refine Calls.mono (clone_nil V3) ?_
  rintro e V4 ⟨rfl, hV4⟩
  have RC4 : Hid (Rd V4 none ([] : List Int)) := .inl rfl
  have B34 : Hid (Below V3.heap.size V3 V4) := by rw [← hV4]; exact Below.refl _ _
  clear hV4
  go_wp2_with fail
  have BV3 : Hid (Below WB2.heap.size WB2 V3) := (B1.out.trans (B12.out.mono B1.out.size)).trans (B23.out.mono (Nat.le_trans B1.out.size B12.out.size))
  have BV4 : Hid (Below WB2.heap.size WB2 V4) := BV3.out.trans (B34.out.mono BV3.out.size)
  have ZV : Hid (w.heap.size ≤ w.heap.size ∧ w.heap.size ≤ WB2.heap.size ∧ WB2.heap.size ≤ WB2.heap.size ∧ WB2.heap.size ≤ V1.heap.size ∧ V1.heap.size ≤ V2.heap.size ∧ V2.heap.size ≤ V3.heap.size ∧ V3.heap.size ≤ V4.heap.size) := ⟨Z.out.1, Z.out.2.1, Z.out.2.2, B1.out.size, B12.out.size, B23.out.size, B34.out.size⟩
  have J1 : Hid (∀ b o, some (⟨WB2.heap.size, 0, none⟩ : Addr) = some ⟨b, o, none⟩ → WB2.heap.size ≤ b) := fun b o e => by cases e; exact Nat.le_refl _
  have J2 : Hid (∀ b o, some (⟨V1.heap.size, 0, none⟩ : Addr) = some ⟨b, o, none⟩ → V1.heap.size ≤ b) := fun b o e => by cases e; exact Nat.le_refl _
  have J3 : Hid (∀ b o, none = some (⟨b, o, none⟩ : Addr) → V2.heap.size ≤ b) := fun b o e => by cases e <;> exact Nat.le_refl _
  have J4 : Hid (∀ b o, none = some (⟨b, o, none⟩ : Addr) → V3.heap.size ≤ b) := fun b o e => by cases e <;> exact Nat.le_refl _
  have ST0 : Hid (St w.heap.size w V4.heap.size [] 0 [] (.iface 73 (.pointer (some aE))) [(none, ([] : List Int)), ((some ⟨w.heap.size, 0, none⟩), l2), (none, ([] : List Int)), (some ⟨WB2.heap.size, 0, none⟩, bl s1), (some ⟨V1.heap.size, 0, none⟩, bl s3), (none, ([] : List Int)), (none, ([] : List Int))] (V4.alloc (.cells #[.slice none 0 0, .int .i64 0, .int .i8 0, .slice none 0 0] 32))) := by
    have hbw : Below w.heap.size w V4 := BD0.out.trans (BV4.out.mono BD0.out.size)
    have zv := ZV.out
    refine St.new hbw.size ?_ ((World.cell?_of_block (w := w) (hbw.block 1 hN1)).trans HE.out) hbw
    intro r hm
    simp only [List.mem_cons, List.not_mem_nil, or_false] at hm
    rcases hm with rfl | rfl | rfl | rfl | rfl | rfl | rfl
    · exact ⟨RX1.out.later BV4.out, fun b o e hl => by have := I1.out b o e hl; omega⟩
    · exact ⟨RX2.out.later BV4.out, fun b o e hl => by have := I2.out b o e hl; omega⟩
    · exact ⟨RX3.out.later BV4.out, fun b o e hl => by have := I3.out b o e hl; omega⟩
    · exact ⟨((R1.out.later B12.out).later B23.out).later B34.out, fun b o e hl => by have := J1.out b o e; omega⟩
    · exact ⟨(R2.out.later B23.out).later B34.out, fun b o e hl => by have := J2.out b o e; omega⟩
    · exact ⟨RC3.out.later B34.out, fun b o e hl => by have := J3.out b o e; omega⟩
    · exact ⟨RC4.out, fun b o e hl => by have := J4.out b o e; omega⟩
  clear RX1 RX2 RX3 R1 R2 RC3 RC4 B1 B12 B23 B34 BV3 BV4 BD0 HE Z
  have C1 : Hid (Calls Tryd.prog 8 #[.pointer (some ⟨V4.heap.size, 0, none⟩), .string s1, .slice none 0 0] (V4.alloc (.cells #[.slice none 0 0, .int .i64 0, .int .i8 0, .slice none 0 0] 32)) fun e w' => e = .returned .nilIface ∧ St w.heap.size w V4.heap.size ([] ++ bl s1 ++ ([] : List Int)) 1 ([] ++ F4 0 (0 + s1.size) (0 + s1.size) (0 + s1.size + 0)) (.iface 73 (.pointer (some aE))) [((some ⟨w.heap.size, 0, none⟩), l2), (none, ([] : List Int)), (some ⟨WB2.heap.size, 0, none⟩, bl s1), (some ⟨V1.heap.size, 0, none⟩, bl s3), (none, ([] : List Int)), (none, ([] : List Int))] w') := by
    have zv := ZV.out
    refine Calls.mono (ST0.out.add s1 0 0 E1.out (Nat.le_refl _) hN1 (apart_of w.heap.size (fun b o e hl => (I1.out b o e hl).2) ?_) HQ1.out HQ2.out (by omega) (by simp; omega)) ?_
    · intro r hm b o e hl
      simp only [List.mem_cons, List.not_mem_nil, or_false] at hm
      rcases hm with rfl | rfl | rfl | rfl | rfl | rfl
      · exact (I2.out b o e hl).1
      · have := (I3.out b o e hl).1; omega
      · have := J1.out b o e; omega
      · have := J2.out b o e; omega
      · have := J3.out b o e; omega
      · have := J4.out b o e; omega
    · rintro e w' ⟨he, hs⟩
      exact ⟨he, hs⟩
  refine Calls.mono C1.out ?_
  rintro e U1 ⟨rfl, st1⟩
  have ST1 : Hid (St w.heap.size w V4.heap.size ([] ++ bl s1 ++ ([] : List Int)) 1 ([] ++ F4 0 (0 + s1.size) (0 + s1.size) (0 + s1.size + 0)) (.iface 73 (.pointer (some aE))) [((some ⟨w.heap.size, 0, none⟩), l2), (none, ([] : List Int)), (some ⟨WB2.heap.size, 0, none⟩, bl s1), (some ⟨V1.heap.size, 0, none⟩, bl s3), (none, ([] : List Int)), (none, ([] : List Int))] U1) := st1
  clear st1 C1 ST0
  have HLEN1 : Hid (([] ++ bl s1 ++ ([] : List Int)).length = s1.size + 0) := by
    show _ = _
    rw [List.nil_append, List.length_append, bl_length, E1.out]
  have C2 : Hid (Calls Tryd.prog 15 #[.pointer (some ⟨V4.heap.size, 0, none⟩), .string s2, .slice (some ⟨w.heap.size, 0, none⟩) m2 m2] U1 fun e w' => (∃ x : Addr, e = .returned (.iface 73 (.pointer (some x)))) ∧ St w.heap.size w V4.heap.size ([] ++ bl s1 ++ ([] : List Int) ++ bl s2 ++ l2) 1 ([] ++ F4 0 (0 + s1.size) (0 + s1.size) (0 + s1.size + 0)) (.iface 73 (.pointer (some aE))) [(none, ([] : List Int)), (some ⟨WB2.heap.size, 0, none⟩, bl s1), (some ⟨V1.heap.size, 0, none⟩, bl s3), (none, ([] : List Int)), (none, ([] : List Int))] w') := by
    have zv := ZV.out
    refine ST1.out.addFailing s2 m2 m2 E2.out (Nat.le_refl _) hN1 HEE.out ((Array.getElem?_eq_some_iff.1 HEE.out).1) (apart_of WB2.heap.size (fun b o e hl => (I2.out b o e hl).2) ?_) HQ2.out (by rw [HLEN1.out]; omega)
    intro r hm b o e hl
    simp only [List.mem_cons, List.not_mem_nil, or_false] at hm
    rcases hm with rfl | rfl | rfl | rfl | rfl
    · exact (I3.out b o e hl).1
    · have := J1.out b o e; omega
    · have := J2.out b o e; omega
    · have := J3.out b o e; omega
    · have := J4.out b o e; omega
  go_wp2_with fail
  refine Calls.mono C2.out ?_
  rintro e U2 ⟨⟨xA, rfl⟩, st2⟩
  have qn := fun W => eq_nil xA W
  have ST2 : Hid (St w.heap.size w V4.heap.size ([] ++ bl s1 ++ ([] : List Int) ++ bl s2 ++ l2) 1 ([] ++ F4 0 (0 + s1.size) (0 + s1.size) (0 + s1.size + 0)) (.iface 73 (.pointer (some aE))) [(none, ([] : List Int)), (some ⟨WB2.heap.size, 0, none⟩, bl s1), (some ⟨V1.heap.size, 0, none⟩, bl s3), (none, ([] : List Int)), (none, ([] : List Int))] U2) := st2
  clear st2 C2 ST1
  have HLEN2 : Hid (([] ++ bl s1 ++ ([] : List Int) ++ bl s2 ++ l2).length = s1.size + 0 + s2.size + m2) := by
    show _ = _
    rw [List.length_append, List.length_append, HLEN1.out, bl_length, E2.out]
  have C3 : Hid (Calls Tryd.prog 9 #[.pointer (some ⟨V4.heap.size, 0, none⟩)] U2 fun e w' => e = .returned (.int .i64 1) ∧ U2 = w') := by
    obtain ⟨g, fs, hAD, _⟩ := ST2.out
    exact count9_1 hAD
  go_wp2_with fail
  refine Calls.mono C3.out ?_
  rintro e w' ⟨rfl, rfl⟩
  clear C3
  have C4 : Hid (Calls Tryd.prog 8 #[.pointer (some ⟨V4.heap.size, 0, none⟩), .string s3, .slice none 0 0] U2 fun e w' => e = .returned .nilIface ∧ ∃ xs, St w.heap.size w V4.heap.size ([] ++ bl s1 ++ ([] : List Int) ++ bl s2 ++ l2 ++ bl s3 ++ ([] : List Int)) 2 xs (.iface 73 (.pointer (some aE))) [(some ⟨WB2.heap.size, 0, none⟩, bl s1), (some ⟨V1.heap.size, 0, none⟩, bl s3), (none, ([] : List Int)), (none, ([] : List Int))] w' ∧
      xs = [.int .i64 0, .int .i64 s1.size, .int .i64 s1.size, .int .i64 ((s1.size : Int) + (0 : Nat)), .int .i64 ((s1.size : Int) + (0 : Nat) + s2.size + (m2 : Nat)), .int .i64 ((s1.size : Int) + (0 : Nat) + s2.size + (m2 : Nat) + s3.size), .int .i64 ((s1.size : Int) + (0 : Nat) + s2.size + (m2 : Nat) + s3.size), .int .i64 ((s1.size : Int) + (0 : Nat) + s2.size + (m2 : Nat) + s3.size + (0 : Nat))]) := by
    have zv := ZV.out
    refine Calls.mono (ST2.out.add s3 0 0 E3.out (Nat.le_refl _) hN1 (apart_of WB2.heap.size (fun b o e hl => (I3.out b o e hl).2) ?_) HQ1.out HQ2.out (by omega) (by rw [HLEN2.out]; omega)) ?_
    · intro r hm b o e hl
      simp only [List.mem_cons, List.not_mem_nil, or_false] at hm
      rcases hm with rfl | rfl | rfl | rfl
      · exact J1.out b o e
      · have := J2.out b o e; omega
      · have := J3.out b o e; omega
      · have := J4.out b o e; omega
    · rintro e w' ⟨he, hs⟩
      rw [HLEN2.out] at hs
      refine ⟨he, _, hs, ?_⟩
      simp [F4]
  go_wp2_with fail
  refine Calls.mono C4.out ?_
  rintro e U3 ⟨rfl, xs, st3, hxs⟩
  obtain ⟨g, fs, hAD, hgt, hrs, hEE, hBel⟩ := st3
  subst hxs
  have T1 : Hid (Rd U3 (some ⟨WB2.heap.size, 0, none⟩) (bl s1)) := (hrs (some ⟨WB2.heap.size, 0, none⟩, bl s1) (by simp)).1
  have T2 : Hid (Rd U3 (some ⟨V1.heap.size, 0, none⟩) (bl s3)) := (hrs (some ⟨V1.heap.size, 0, none⟩, bl s3) (by simp)).1
  have T3 : Hid (Rd U3 none ([] : List Int)) := (hrs (none, ([] : List Int)) (by simp)).1
  have T4 : Hid (Rd U3 none ([] : List Int)) := (hrs (none, ([] : List Int)) (by simp)).1
  have HBEL : Hid (Below w.heap.size w U3) := hBel
  have HA : Hid (AD w.heap.size U3 V4.heap.size ([] ++ bl s1 ++ ([] : List Int) ++ bl s2 ++ l2 ++ bl s3 ++ ([] : List Int)) g fs 2 [.int .i64 0, .int .i64 s1.size, .int .i64 s1.size, .int .i64 ((s1.size : Int) + (0 : Nat)), .int .i64 ((s1.size : Int) + (0 : Nat) + s2.size + (m2 : Nat)), .int .i64 ((s1.size : Int) + (0 : Nat) + s2.size + (m2 : Nat) + s3.size), .int .i64 ((s1.size : Int) + (0 : Nat) + s2.size + (m2 : Nat) + s3.size), .int .i64 ((s1.size : Int) + (0 : Nat) + s2.size + (m2 : Nat) + s3.size + (0 : Nat))]) := hAD
  clear hAD hgt hrs hEE hBel C4 ST2
  go_wp2_with fail
  refine Calls.mono (count9 HA.out) ?_
  rintro e w' ⟨rfl, rfl⟩
  obtain ⟨R, hR⟩ : ∃ R, R = [] ++ bl s1 ++ ([] : List Int) ++ bl s2 ++ l2 ++ bl s3 ++ ([] : List Int) := ⟨_, rfl⟩
  have HR : Hid (R = [] ++ bl s1 ++ ([] : List Int) ++ bl s2 ++ l2 ++ bl s3 ++ ([] : List Int)) := hR
  have HRL : Hid (R.length = s1.size + 0 + s2.size + m2 + s3.size + 0) := by
    show _ = _
    rw [hR, List.length_append, List.length_append, HLEN2.out, bl_length, E3.out]
  rw [← hR] at HA
  clear hR
  go_wp2_with fail
  refine Calls.mono (raw11' HA.out.sk) ?_
  rintro e w' ⟨ra, rc, rfl, hrr, q1, rfl⟩
  have HRR : Hid (Raw U3 ra rc R) := hrr
  clear hrr
  have HA3 : Hid (AD w.heap.size (U3.drewN q1) V4.heap.size R g fs 2 [.int .i64 0, .int .i64 s1.size, .int .i64 s1.size, .int .i64 ((s1.size : Int) + (0 : Nat)), .int .i64 ((s1.size : Int) + (0 : Nat) + s2.size + (m2 : Nat)), .int .i64 ((s1.size : Int) + (0 : Nat) + s2.size + (m2 : Nat) + s3.size), .int .i64 ((s1.size : Int) + (0 : Nat) + s2.size + (m2 : Nat) + s3.size), .int .i64 ((s1.size : Int) + (0 : Nat) + s2.size + (m2 : Nat) + s3.size + (0 : Nat))]) := HA.out.same (Nat.le_refl _) (fun _ _ => rfl)
  go_wp2_with fail
  refine Calls.mono (field12_0 HA3.out _ _ _ _ rfl rfl rfl rfl) ?_
  rintro e U4 ⟨rfl, hb3⟩
  have HA4 : Hid (AD w.heap.size U4 V4.heap.size R g fs 2 [.int .i64 0, .int .i64 s1.size, .int .i64 s1.size, .int .i64 ((s1.size : Int) + (0 : Nat)), .int .i64 ((s1.size : Int) + (0 : Nat) + s2.size + (m2 : Nat)), .int .i64 ((s1.size : Int) + (0 : Nat) + s2.size + (m2 : Nat) + s3.size), .int .i64 ((s1.size : Int) + (0 : Nat) + s2.size + (m2 : Nat) + s3.size), .int .i64 ((s1.size : Int) + (0 : Nat) + s2.size + (m2 : Nat) + s3.size + (0 : Nat))]) := by
    refine HA3.out.same hb3.size ?_
    rintro k (rfl | e | e)
    · exact hb3.block _ HA3.out.sk.lt
    · exact hb3.block k (HA3.out.row_lt k e)
    · exact hb3.block k (HA3.out.own.lt k e).2
  have BU4 : Hid (Below U3.heap.size U3 U4) := (show Below U3.heap.size U3 (U3.drewN q1) from below_drewN (Below.refl _ _) q1).trans (show Below U3.heap.size (U3.drewN q1) U4 from hb3)
  clear hb3
  go_wp2_with fail
  refine Calls.mono (field12_1 HA4.out _ _ _ _ rfl rfl rfl rfl) ?_
  rintro e U5 ⟨rfl, hb4⟩
  have BU5 : Hid (Below U3.heap.size U3 U5) := BU4.out.trans (hb4.mono BU4.out.size)
  have HB5 : Hid (Below w.heap.size w U5) := HBEL.out.trans (BU5.out.mono HBEL.out.size)
  clear hb4 HA HA3 HA4
  have K1 : Hid (∀ q, Calls Tryd.prog 16 #[.slice ra R.length rc, .int .i64 0, .int .i64 s1.size, .slice (some ⟨WB2.heap.size, 0, none⟩) s1.size s1.size] (U5.drewN q) fun e w' => e = .returned (.bool true) ∧ ∃ k, w' = (U5.drewN q).drewN k) := fun q =>
    span16i ra _ _ rc 0 s1.size _ _ R (bl s1) _ _ _ rfl rfl ((HRR.out.later BU5.out).drewN q) rfl (by rw [HRL.out]; omega) ((T1.out.later BU5.out).drewN q) (by omega) (by rw [HRL.out]; omega) (mid [] (bl s1) (([] : List Int) ++ bl s2 ++ l2 ++ bl s3 ++ ([] : List Int)) R _ _ (by rw [HR.out]; simp [List.append_assoc]) rfl (by rw [bl_length]; simp)) (bl_length s1)
  have K2 : Hid (∀ q, Calls Tryd.prog 16 #[.slice ra R.length rc, .int .i64 s1.size, .int .i64 ((s1.size : Int) + (0 : Nat)), .slice none 0 0] (U5.drewN q) fun e w' => e = .returned (.bool true) ∧ ∃ k, w' = (U5.drewN q).drewN k) := fun q =>
    span16i ra _ _ rc s1.size (s1.size + 0) _ _ R ([] : List Int) _ _ _ rfl (by simp) ((HRR.out.later BU5.out).drewN q) rfl (by rw [HRL.out]; omega) ((T3.out.later BU5.out).drewN q) (by omega) (by rw [HRL.out]; omega) (mid (bl s1) ([] : List Int) (bl s2 ++ l2 ++ bl s3 ++ ([] : List Int)) R _ _ (by rw [HR.out]; simp [List.append_assoc]) (bl_length s1).symm (by rw [bl_length, E1.out])) E1.out
  have K3 : Hid (∀ q, Calls Tryd.prog 16 #[.slice ra R.length rc, .int .i64 ((s1.size : Int) + (0 : Nat) + s2.size + (m2 : Nat)), .int .i64 ((s1.size : Int) + (0 : Nat) + s2.size + (m2 : Nat) + s3.size), .slice (some ⟨V1.heap.size, 0, none⟩) s3.size s3.size] (U5.drewN q) fun e w' => e = .returned (.bool true) ∧ ∃ k, w' = (U5.drewN q).drewN k) := fun q =>
    span16i ra _ _ rc (s1.size + 0 + s2.size + m2) (s1.size + 0 + s2.size + m2 + s3.size) _ _ R (bl s3) _ _ _ (by simp) (by simp) ((HRR.out.later BU5.out).drewN q) rfl (by rw [HRL.out]; omega) ((T2.out.later BU5.out).drewN q) (by omega) (by rw [HRL.out]; omega) (mid ([] ++ bl s1 ++ ([] : List Int) ++ bl s2 ++ l2) (bl s3) ([] : List Int) R _ _ HR.out HLEN2.out.symm (by rw [HLEN2.out, bl_length])) (bl_length s3)
  have K4 : Hid (∀ q, Calls Tryd.prog 16 #[.slice ra R.length rc, .int .i64 ((s1.size : Int) + (0 : Nat) + s2.size + (m2 : Nat) + s3.size), .int .i64 ((s1.size : Int) + (0 : Nat) + s2.size + (m2 : Nat) + s3.size + (0 : Nat)), .slice none 0 0] (U5.drewN q) fun e w' => e = .returned (.bool true) ∧ ∃ k, w' = (U5.drewN q).drewN k) := fun q =>
    span16i ra _ _ rc (s1.size + 0 + s2.size + m2 + s3.size) (s1.size + 0 + s2.size + m2 + s3.size + 0) _ _ R ([] : List Int) _ _ _ (by simp) (by simp) ((HRR.out.later BU5.out).drewN q) rfl (by rw [HRL.out]; omega) ((T4.out.later BU5.out).drewN q) (by omega) (by rw [HRL.out]; omega) (mid ([] ++ bl s1 ++ ([] : List Int) ++ bl s2 ++ l2 ++ bl s3) ([] : List Int) [] R _ _ (by rw [HR.out]; simp [List.append_assoc]) (by rw [List.length_append, HLEN2.out, bl_length]) (by rw [List.length_append, HLEN2.out, bl_length, E3.out])) E3.out
  have hle : (s1.size : Int) + (0 : Nat) ≤ (s1.size : Int) + (0 : Nat) + s2.size + (m2 : Nat) := by omega
  go_wp2_with fail
  refine Calls.mono (K1.out 0) ?_
  rintro e w' ⟨rfl, q2, rfl⟩
  go_wp2_with fail
  refine Calls.mono (K2.out q2) ?_
  rintro e w' ⟨rfl, q3, rfl⟩
  go_wp2_with fail
  refine Calls.mono (K3.out (q2 + q3)) ?_
  rintro e w' ⟨rfl, q4, rfl⟩
  go_wp2_with fail
  refine Calls.mono (K4.out (q2 + q3 + q4)) ?_
  rintro e w' ⟨rfl, q5, rfl⟩
  go_wp2_with fail
  go_ret
  exact ⟨rfl, below_drewN HB5.out _⟩

end Go.Proofs.Qxb6613323aDoor.Do
