/-
  The walk of FnWriteStreamGathersShortAndPassesLong (3).
-/
import Derived.Test.Qxb6613323aWsJ
namespace Go.Proofs.Qxb6613323a.Ws
open Go.ChangeShapes Go.WideShapes Go.ChangeAt Go.RowKit

set_option maxHeartbeats 1000000 in
theorem bytes5_any (a1 a2 a3 : Option Addr) (n1 n2 n3 c1 c2 c3 : Nat) (w : World) :
    Calls Try.prog 5 #[.slice a1 n1 c1, .slice a2 n2 c2, .slice a3 n3 c3] w fun e w' => ∃ b, e = .returned (.bool b) ∧ w = w' := by
  go_enter Try.func5, Try.ntmps5
  go_wp2
  all_goals (go_ret; exact ⟨_, rfl, rfl⟩)

set_option maxHeartbeats 1000000 in
theorem bytes5_yes (a1 a2 a3 : Option Addr) (n1 n2 n3 c1 c2 c3 : Nat) (w : World) (h1 : (n1 : Int) ≤ 65536) (h2 : (n2 : Int) ≤ 65536) (h3 : (n3 : Int) ≤ 65536) :
    Calls Try.prog 5 #[.slice a1 n1 c1, .slice a2 n2 c2, .slice a3 n3 c3] w fun e w' => e = .returned (.bool true) ∧ w = w' := by
  go_enter Try.func5, Try.ntmps5
  go_wp2
  go_ret
  exact ⟨rfl, rfl⟩

set_option maxHeartbeats 1000000 in
theorem stream_big (a1 a2 a3 : Option Addr) (n1 n2 n3 c1 c2 c3 : Nat) (w : World) (h : (65536 : Int) < (n1 : Int) ∨ (65536 : Int) < (n2 : Int) ∨ (65536 : Int) < (n3 : Int)) :
    Calls Try.prog 3 #[.slice a1 n1 c1, .slice a2 n2 c2, .slice a3 n3 c3] w fun e w' => e = .returned (.bool true) ∧ w = w' := by
  have C : Hid _ := bytes5_any a1 a2 a3 n1 n2 n3 c1 c2 c3 w
  by_cases h1 : (65536 : Int) < (n1 : Int)
  · go_enter Try.func3, Try.ntmps3
    go_wp2_with fail
    refine Calls.mono C.out ?_
    rintro e w' ⟨b, rfl, rfl⟩
    cases b
    · go_wp2_with fail
      go_ret
      exact ⟨rfl, rfl⟩
    · go_wp2_with fail
      go_ret
      exact ⟨rfl, rfl⟩
  by_cases h2 : (65536 : Int) < (n2 : Int)
  · go_enter Try.func3, Try.ntmps3
    go_wp2_with fail
    refine Calls.mono C.out ?_
    rintro e w' ⟨b, rfl, rfl⟩
    cases b
    · go_wp2_with fail
      go_ret
      exact ⟨rfl, rfl⟩
    · go_wp2_with fail
      go_ret
      exact ⟨rfl, rfl⟩
  have h3 : (65536 : Int) < (n3 : Int) := by omega
  clear h
  go_enter Try.func3, Try.ntmps3
  go_wp2_with fail
  refine Calls.mono C.out ?_
  rintro e w' ⟨b, rfl, rfl⟩
  cases b
  · go_wp2_with fail
    go_ret
    exact ⟨rfl, rfl⟩
  · go_wp2_with fail
    go_ret
    exact ⟨rfl, rfl⟩

theorem Rd.now {w0 w : World} {wb sb gw : Nat} {g : Option Nat} {S T l : List Int} {a : Option Addr} (h : Rd w0 a l) (k : WS w0 w wb sb gw g S T) : Rd w a l := h.of_below k.below h.old

set_option maxHeartbeats 4000000 in
theorem stream_small (a1 a2 a3 : Option Addr) (n1 n2 n3 c1 c2 c3 : Nat) (A B C : List Int) (w : World) (e1 : A.length = n1) (e2 : B.length = n2) (e3 : C.length = n3)
    (h1 : (n1 : Int) ≤ 65536) (h2 : (n2 : Int) ≤ 65536) (h3 : (n3 : Int) ≤ 65536) (r1 : Rd w a1 A) (r2 : Rd w a2 B) (r3 : Rd w a3 C) :
    Calls Try.prog 3 #[.slice a1 n1 c1, .slice a2 n2 c2, .slice a3 n3 c3] w fun e w' => e = .returned (.bool true) ∧ Below w.heap.size w w' := by
  have E1 : Hid (A.length = n1) := e1
  have E2 : Hid (B.length = n2) := e2
  have E3 : Hid (C.length = n3) := e3
  have R1 : Hid (Rd w a1 A) := r1
  have R2 : Hid (Rd w a2 B) := r2
  have R3 : Hid (Rd w a3 C) := r3
  clear e1 e2 e3 r1 r2 r3
  go_enter Try.func3, Try.ntmps3
  go_wp2_with fail
  refine Calls.mono (bytes5_yes a1 a2 a3 n1 n2 n3 c1 c2 c3 w h1 h2 h3) ?_
  rintro e w' ⟨rfl, rfl⟩
  go_wp2_with fail
  refine Calls.mono (cat6n a1 a2 n1 n2 c1 c2 A B w E1.out E2.out (by omega) (by omega) R1.out R2.out) ?_
  rintro e W1 ⟨rfl, rab, b1⟩
  have RAB : Hid (Rd W1 (some ⟨w.heap.size, 0, none⟩) (A ++ B)) := rab
  have B1 : Hid _ := b1
  clear rab b1
  go_wp2_with fail
  refine Calls.mono (cat6n _ a3 (n1 + n2) n3 _ c3 (A ++ B) C W1 (by simp [E1.out, E2.out]) E3.out (by omega) (by omega) RAB.out (R3.out.later B1.out)) ?_
  rintro e W2 ⟨rfl, rall, b2⟩
  have Q1 : Hid (Rd W2 a1 A) := (R1.out.later B1.out).later b2
  have Q2 : Hid (Rd W2 a2 B) := (R2.out.later B1.out).later b2
  have Q3 : Hid (Rd W2 a3 C) := (R3.out.later B1.out).later b2
  have QAB : Hid (Rd W2 (some ⟨w.heap.size, 0, none⟩) (A ++ B)) := RAB.out.later b2
  have QALL : Hid (Rd W2 (some ⟨W1.heap.size, 0, none⟩) (A ++ B ++ C)) := rall
  have B2 : Hid (Below w.heap.size w W2) := B1.out.trans (b2.mono B1.out.size)
  have FIN : Hid (∀ W, Below W2.heap.size W2 W → Below w.heap.size w W) := fun W hb => B2.out.trans (hb.mono B2.out.size)
  clear rall b2
  go_wp2_with fail
  refine Calls.mono (new7 W2) ?_
  rintro e W3 ⟨rfl, j0⟩
  have J0 : Hid _ := j0
  clear j0
  go_wp2_with fail
  by_cases hA : (n1 : Int) ≤ 512
  · refine Calls.mono (write8_short J0.out a1 n1 c1 E1.out Q1.out (by have := E1.out; omega)) ?_
    rintro e W4 ⟨rfl, j1⟩
    have JA : Hid _ := j1
    clear j1
    go_wp2_with fail
    refine Calls.mono (sink9 JA.out.sk) ?_
    rintro e w' ⟨za, zc, rfl, _, q0, rfl⟩
    go_wp2_with fail
    refine Calls.mono (wbuf11 (JA.out.drewN q0)) ?_
    rintro e w' ⟨rfl, rfl⟩
    go_wp2_with fail
    refine Calls.mono (eq10n _ a1 _ n1 _ c1 A _ rfl E1.out (by have := E1.out; omega) (JA.out.rdT.drewN q0) ((Q1.out.now JA.out).drewN q0)) ?_
    rintro e w' ⟨rfl, q00, rfl⟩
    have J : Hid _ := (JA.out.drewN (q0 + q00))
    go_wp2_with fail
    -- w.Write(b)
    refine Calls.mono (write8 (p := B) J.out (by simp) a2 n2 c2 E2.out Q2.out (by have := E2.out; omega)) ?_
    rintro e W5 ⟨rfl, g2, S2, T2, j2, hst2⟩
    have J2 : Hid _ := j2
    have ST2 : Hid (_ = _) := hst2
    have HL2 : S2.length + T2.length = n1 + n2 := by have := congrArg List.length hst2; simp only [List.length_append, List.length_nil, E1.out, E2.out] at this; omega
    have hT2 := j2.hT
    have K2 : Hid (S2.length + T2.length = n1 + n2 ∧ T2.length ≤ 512) := ⟨HL2, hT2⟩
    clear j2 hst2 HL2 hT2
    go_wp2_with fail
    refine Calls.mono (sink9 J2.out.sk) ?_
    rintro e w' ⟨sa, sc, rfl, hsr, q1, rfl⟩
    have HSR : Hid (Rd W5 sa S2) := hsr
    clear hsr
    go_wp2_with fail
    refine Calls.mono (wbuf11 (J2.out.drewN q1)) ?_
    rintro e w' ⟨rfl, rfl⟩
    go_wp2_with fail
    refine Calls.mono (stream12n sa _ _ (n1 + n2) sc _ _ S2 T2 (A ++ B) _ (by have := K2.out; omega) K2.out.2 (HSR.out.drewN q1) (J2.out.rdT.drewN q1) ((QAB.out.now J2.out).drewN q1) (by have := ST2.out; simpa using this) (by simp [E1.out, E2.out])) ?_
    rintro e w' ⟨rfl, q2, rfl⟩
    go_wp2_with fail
    -- w.Write(c)
    refine Calls.mono (write8 (p := C) (J2.out.drewN (q1 + q2)) (by have := K2.out; omega) a3 n3 c3 E3.out Q3.out (by have := E3.out; omega)) ?_
    rintro e W6 ⟨rfl, g3, S3, T3, j3, hst3⟩
    have J3 : Hid _ := j3
    have st3 : S3 ++ T3 = A ++ B ++ C := by rw [hst3, ST2.out]; simp
    have ST3 : Hid (S3 ++ T3 = A ++ B ++ C) := st3
    have K3 : Hid (S3.length + T3.length = n1 + n2 + n3 ∧ T3.length ≤ 512) := ⟨by have := congrArg List.length ST3.out; simp only [List.length_append, E1.out, E2.out, E3.out] at this; omega, j3.hT⟩
    clear j3 hst3 st3
    go_wp2_with fail
    refine Calls.mono (sink9 J3.out.sk) ?_
    rintro e w' ⟨sa2, sc2, rfl, hsr2, q3, rfl⟩
    have HSR2 : Hid (Rd W6 sa2 S3) := hsr2
    clear hsr2
    go_wp2_with fail
    refine Calls.mono (wbuf11 (J3.out.drewN q3)) ?_
    rintro e w' ⟨rfl, rfl⟩
    go_wp2_with fail
    refine Calls.mono (stream12n sa2 _ _ (n1 + n2 + n3) sc2 _ _ S3 T3 (A ++ B ++ C) _ (by have := K3.out; omega) K3.out.2 (HSR2.out.drewN q3) (J3.out.rdT.drewN q3) ((QALL.out.now J3.out).drewN q3) ST3.out (by simp only [List.length_append, E1.out, E2.out, E3.out])) ?_
    rintro e w' ⟨rfl, q4, rfl⟩
    go_wp2_with fail
    -- w.Flush()
    refine Calls.mono (flush13 (J3.out.drewN (q3 + q4)) (by have := K3.out; omega)) ?_
    rintro e W7 ⟨rfl, g4, j4⟩
    rw [ST3.out] at j4
    have J4 : Hid _ := j4
    clear j4
    go_wp2_with fail
    refine Calls.mono (sink9 J4.out.sk) ?_
    rintro e w' ⟨sa3, sc3, rfl, hsr3, q5, rfl⟩
    have HSR3 : Hid (Rd W7 sa3 (A ++ B ++ C)) := hsr3
    clear hsr3
    go_wp2_with fail
    refine Calls.mono (eq10n sa3 _ _ (n1 + n2 + n3) sc3 _ (A ++ B ++ C) _ (by simp only [List.length_append]; omega) (by simp only [List.length_append, E1.out, E2.out, E3.out]) (by have := E1.out; have := E2.out; have := E3.out; omega) (HSR3.out.drewN q5) ((QALL.out.now J4.out).drewN q5)) ?_
    rintro e w' ⟨rfl, q6, rfl⟩
    go_wp2_with fail
    refine Calls.mono (wbuf11 (J4.out.drewN (q5 + q6))) ?_
    rintro e w' ⟨rfl, rfl⟩
    go_wp2_with fail
    go_ret
    exact ⟨rfl, FIN.out _ (J4.out.drewN (q5 + q6)).below⟩
  · refine Calls.mono (write8_long J0.out a1 n1 c1 E1.out Q1.out (by have := E1.out; omega) (by have := E1.out; omega)) ?_
    rintro e W4 ⟨rfl, ga, j1⟩
    have JA : Hid _ := j1
    clear j1
    go_wp2_with fail
    refine Calls.mono (wbuf11 JA.out) ?_
    rintro e w' ⟨rfl, rfl⟩
    go_wp2_with fail
    refine Calls.mono (sink9 JA.out.sk) ?_
    rintro e w' ⟨za, zc, rfl, hzr, q0, rfl⟩
    have HZR : Hid (Rd W4 za A) := hzr
    clear hzr
    go_wp2_with fail
    refine Calls.mono (eq10n za a1 _ n1 zc c1 A _ rfl E1.out (by have := E1.out; omega) (HZR.out.drewN q0) ((Q1.out.now JA.out).drewN q0)) ?_
    rintro e w' ⟨rfl, q00, rfl⟩
    have J : Hid _ := (JA.out.drewN (q0 + q00))
    go_wp2_with fail
    -- w.Write(b)
    refine Calls.mono (write8 (p := B) J.out (by have := E1.out; omega) a2 n2 c2 E2.out Q2.out (by have := E2.out; omega)) ?_
    rintro e W5 ⟨rfl, g2, S2, T2, j2, hst2⟩
    have J2 : Hid _ := j2
    have ST2 : Hid (_ = _) := hst2
    have HL2 : S2.length + T2.length = n1 + n2 := by have := congrArg List.length hst2; simp only [List.length_append, List.length_nil, E1.out, E2.out] at this; omega
    have hT2 := j2.hT
    have K2 : Hid (S2.length + T2.length = n1 + n2 ∧ T2.length ≤ 512) := ⟨HL2, hT2⟩
    clear j2 hst2 HL2 hT2
    go_wp2_with fail
    refine Calls.mono (sink9 J2.out.sk) ?_
    rintro e w' ⟨sa, sc, rfl, hsr, q1, rfl⟩
    have HSR : Hid (Rd W5 sa S2) := hsr
    clear hsr
    go_wp2_with fail
    refine Calls.mono (wbuf11 (J2.out.drewN q1)) ?_
    rintro e w' ⟨rfl, rfl⟩
    go_wp2_with fail
    refine Calls.mono (stream12n sa _ _ (n1 + n2) sc _ _ S2 T2 (A ++ B) _ (by have := K2.out; omega) K2.out.2 (HSR.out.drewN q1) (J2.out.rdT.drewN q1) ((QAB.out.now J2.out).drewN q1) (by have := ST2.out; simpa using this) (by simp [E1.out, E2.out])) ?_
    rintro e w' ⟨rfl, q2, rfl⟩
    go_wp2_with fail
    -- w.Write(c)
    refine Calls.mono (write8 (p := C) (J2.out.drewN (q1 + q2)) (by have := K2.out; omega) a3 n3 c3 E3.out Q3.out (by have := E3.out; omega)) ?_
    rintro e W6 ⟨rfl, g3, S3, T3, j3, hst3⟩
    have J3 : Hid _ := j3
    have st3 : S3 ++ T3 = A ++ B ++ C := by rw [hst3, ST2.out]; simp
    have ST3 : Hid (S3 ++ T3 = A ++ B ++ C) := st3
    have K3 : Hid (S3.length + T3.length = n1 + n2 + n3 ∧ T3.length ≤ 512) := ⟨by have := congrArg List.length ST3.out; simp only [List.length_append, E1.out, E2.out, E3.out] at this; omega, j3.hT⟩
    clear j3 hst3 st3
    go_wp2_with fail
    refine Calls.mono (sink9 J3.out.sk) ?_
    rintro e w' ⟨sa2, sc2, rfl, hsr2, q3, rfl⟩
    have HSR2 : Hid (Rd W6 sa2 S3) := hsr2
    clear hsr2
    go_wp2_with fail
    refine Calls.mono (wbuf11 (J3.out.drewN q3)) ?_
    rintro e w' ⟨rfl, rfl⟩
    go_wp2_with fail
    refine Calls.mono (stream12n sa2 _ _ (n1 + n2 + n3) sc2 _ _ S3 T3 (A ++ B ++ C) _ (by have := K3.out; omega) K3.out.2 (HSR2.out.drewN q3) (J3.out.rdT.drewN q3) ((QALL.out.now J3.out).drewN q3) ST3.out (by simp only [List.length_append, E1.out, E2.out, E3.out])) ?_
    rintro e w' ⟨rfl, q4, rfl⟩
    go_wp2_with fail
    -- w.Flush()
    refine Calls.mono (flush13 (J3.out.drewN (q3 + q4)) (by have := K3.out; omega)) ?_
    rintro e W7 ⟨rfl, g4, j4⟩
    rw [ST3.out] at j4
    have J4 : Hid _ := j4
    clear j4
    go_wp2_with fail
    refine Calls.mono (sink9 J4.out.sk) ?_
    rintro e w' ⟨sa3, sc3, rfl, hsr3, q5, rfl⟩
    have HSR3 : Hid (Rd W7 sa3 (A ++ B ++ C)) := hsr3
    clear hsr3
    go_wp2_with fail
    refine Calls.mono (eq10n sa3 _ _ (n1 + n2 + n3) sc3 _ (A ++ B ++ C) _ (by simp only [List.length_append]; omega) (by simp only [List.length_append, E1.out, E2.out, E3.out]) (by have := E1.out; have := E2.out; have := E3.out; omega) (HSR3.out.drewN q5) ((QALL.out.now J4.out).drewN q5)) ?_
    rintro e w' ⟨rfl, q6, rfl⟩
    go_wp2_with fail
    refine Calls.mono (wbuf11 (J4.out.drewN (q5 + q6))) ?_
    rintro e w' ⟨rfl, rfl⟩
    go_wp2_with fail
    go_ret
    exact ⟨rfl, FIN.out _ (J4.out.drewN (q5 + q6)).below⟩

/-- a slice of bytes that came in, as the row's step tells of it. -/
theorem rd_of_row {w : World} {a : Option Addr} {len cap : Nat} {zs : List Int}
    (h : (a = none ∧ len = 0 ∧ cap = 0 ∧ zs = []) ∨ ∃ x, a = some x ∧ len ≤ cap ∧ cap ≤ maxLen ∧ zs.length = cap ∧ (∀ i, i < zs.length → w.cell? (x.add i) = some (.int .u8 (zs.getD i 0))) ∧ ∀ n ∈ zs, (Lit.int .u8 n).wf = true) :
    (zs.take len).length = len ∧ Rd w a (zs.take len) := by
  rcases h with ⟨rfl, rfl, rfl, rfl⟩ | ⟨x, rfl, hlc, _, hz, hc, _⟩
  · exact ⟨rfl, .inl rfl⟩
  · refine ⟨by rw [List.length_take]; omega, ?_⟩
    by_cases hl : len = 0
    · exact .inl (by rw [hl]; rfl)
    · obtain ⟨b, o, spot⟩ := x
      have hspot : spot = none := by simpa [Addr.add] using World.cell?_spot (hc 0 (by omega))
      subst hspot
      refine .inr ⟨b, o, rfl, fun i hi => ?_⟩
      have hil : i < len := by rw [List.length_take] at hi; omega
      have h1 := hc i (by omega)
      rw [Addr.add_lit] at h1
      rw [h1]
      simp [bt, hil]

theorem stream_any (a1 a2 a3 : Option Addr) (n1 n2 n3 c1 c2 c3 : Nat) (z1 z2 z3 : List Int) (w : World)
    (h1 : (a1 = none ∧ n1 = 0 ∧ c1 = 0 ∧ z1 = []) ∨ ∃ x, a1 = some x ∧ n1 ≤ c1 ∧ c1 ≤ maxLen ∧ z1.length = c1 ∧ (∀ i, i < z1.length → w.cell? (x.add i) = some (.int .u8 (z1.getD i 0))) ∧ ∀ n ∈ z1, (Lit.int .u8 n).wf = true)
    (h2 : (a2 = none ∧ n2 = 0 ∧ c2 = 0 ∧ z2 = []) ∨ ∃ x, a2 = some x ∧ n2 ≤ c2 ∧ c2 ≤ maxLen ∧ z2.length = c2 ∧ (∀ i, i < z2.length → w.cell? (x.add i) = some (.int .u8 (z2.getD i 0))) ∧ ∀ n ∈ z2, (Lit.int .u8 n).wf = true)
    (h3 : (a3 = none ∧ n3 = 0 ∧ c3 = 0 ∧ z3 = []) ∨ ∃ x, a3 = some x ∧ n3 ≤ c3 ∧ c3 ≤ maxLen ∧ z3.length = c3 ∧ (∀ i, i < z3.length → w.cell? (x.add i) = some (.int .u8 (z3.getD i 0))) ∧ ∀ n ∈ z3, (Lit.int .u8 n).wf = true) :
    Calls Try.prog 3 #[.slice a1 n1 c1, .slice a2 n2 c2, .slice a3 n3 c3] w fun e w' => e = .returned (.bool true) ∧ Below w.heap.size w w' := by
  by_cases hb : (65536 : Int) < (n1 : Int) ∨ (65536 : Int) < (n2 : Int) ∨ (65536 : Int) < (n3 : Int)
  · refine (stream_big a1 a2 a3 n1 n2 n3 c1 c2 c3 w hb).mono ?_
    rintro e w' ⟨rfl, rfl⟩
    exact ⟨rfl, Below.refl _ _⟩
  · obtain ⟨e1, r1⟩ := rd_of_row h1
    obtain ⟨e2, r2⟩ := rd_of_row h2
    obtain ⟨e3, r3⟩ := rd_of_row h3
    exact stream_small a1 a2 a3 n1 n2 n3 c1 c2 c3 _ _ _ w e1 e2 e3 (by omega) (by omega) (by omega) r1 r2 r3

end Go.Proofs.Qxb6613323a.Ws
