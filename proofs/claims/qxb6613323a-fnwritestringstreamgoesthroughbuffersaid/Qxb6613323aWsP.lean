/-
  The walk of FnWriteStringStreamGoesThroughBuffer (4), the first string empty.
-/
import Derived.Test.Qxb6613323aWsN
namespace Go.Proofs.Qxb6613323a.Ws
open Go.ChangeShapes Go.WideShapes Go.ChangeAt Go.RowKit

set_option maxRecDepth 100000 in
set_option maxHeartbeats 8000000 in
theorem strs_zero (s1 s2 s3 : ByteArray) (w : World) (h1 : (s1.size : Int) ≤ 65536) (h2 : (s2.size : Int) ≤ 65536) (h3 : (s3.size : Int) ≤ 65536) (hcase : ¬ (0 : Int) < (s1.size : Int)) :
    Calls Try.prog 4 #[.string s1, .string s2, .string s3] w fun e w' => e = .returned (.bool true) ∧ Below w.heap.size w w' := by
  have b1 := bl_length s1
  have b2 := bl_length s2
  have b3 := bl_length s3
  have E1 : Hid ((bl s1).length = s1.size) := b1
  have E2 : Hid ((bl s2).length = s2.size) := b2
  have E3 : Hid ((bl s3).length = s3.size) := b3
  clear b1 b2 b3
  generalize hA : bl s1 = A at *
  generalize hB : bl s2 = B at *
  generalize hC : bl s3 = C at *
  have HA : Hid (bl s1 = A) := hA
  have HB : Hid (bl s2 = B) := hB
  have HC : Hid (bl s3 = C) := hC
  clear hA hB hC
  go_enter Try.func4, Try.ntmps4
  go_wp2_with fail
  refine Calls.mono (bytes14_yes s1 s2 s3 w h1 h2 h3) ?_
  rintro e w' ⟨rfl, rfl⟩
  go_wp2_with fail
  refine Calls.mono (strbytes15 s1 w (by omega)) ?_
  rintro e W1 ⟨rfl, ra, k1⟩
  have RA : Hid (Rd W1 (some ⟨w.heap.size, 0, none⟩) A) := by rw [← HA.out]; exact ra
  have K1 : Hid (Below w.heap.size w W1) := k1
  clear ra k1
  go_wp2_with fail
  refine Calls.mono (strbytes15 s2 W1 (by omega)) ?_
  rintro e W2 ⟨rfl, rb, k2⟩
  have RB : Hid (Rd W2 (some ⟨W1.heap.size, 0, none⟩) B) := by rw [← HB.out]; exact rb
  have K2 : Hid (Below W1.heap.size W1 W2) := k2
  clear rb k2
  go_wp2_with fail
  refine Calls.mono (cat6n _ _ s1.size s2.size _ _ A B W2 E1.out E2.out (by omega) (by omega) (RA.out.later K2.out) RB.out) ?_
  rintro e W3 ⟨rfl, rab, k3⟩
  have RAB : Hid (Rd W3 (some ⟨W2.heap.size, 0, none⟩) (A ++ B)) := rab
  have K3 : Hid (Below W2.heap.size W2 W3) := k3
  clear rab k3
  go_wp2_with fail
  refine Calls.mono (strbytes15 s3 W3 (by omega)) ?_
  rintro e W4 ⟨rfl, rc, k4⟩
  have RC : Hid (Rd W4 (some ⟨W3.heap.size, 0, none⟩) C) := by rw [← HC.out]; exact rc
  have K4 : Hid (Below W3.heap.size W3 W4) := k4
  clear rc k4
  go_wp2_with fail
  refine Calls.mono (cat6n _ _ (s1.size + s2.size) s3.size _ _ (A ++ B) C W4 (by rw [List.length_append, E1.out, E2.out]) E3.out (by omega) (by omega) (RAB.out.later K4.out) RC.out) ?_
  rintro e W5 ⟨rfl, rall, k5⟩
  have QALL : Hid (Rd W5 (some ⟨W4.heap.size, 0, none⟩) (A ++ B ++ C)) := rall
  have KB : Hid (Below w.heap.size w W5) := by
    have q1 := K1.out
    have q2 := q1.trans (K2.out.mono q1.size)
    have q3 := q2.trans (K3.out.mono q2.size)
    have q4 := q3.trans (K4.out.mono q3.size)
    exact q4.trans (k5.mono q4.size)
  have FIN : Hid (∀ W, Below W5.heap.size W5 W → Below w.heap.size w W) := fun W hb => KB.out.trans (hb.mono KB.out.size)
  have hgA : Hid (W4.heap.size < W5.heap.size ∨ A ++ B ++ C = []) := by
    by_cases he : A ++ B ++ C = []
    · exact .inr he
    · exact .inl (QALL.out.lt he)
  clear rall k5
  go_wp2_with fail
  refine Calls.mono (new7 W5) ?_
  rintro e W6 ⟨rfl, j0⟩
  have J0 : Hid (WS W5 W6 (W5.heap.size + 1 + 1) W5.heap.size (W5.heap.size + 1) none [] []) := j0
  clear j0
  go_wp2_with fail
  refine Calls.mono (writestr16 J0.out s1 (by simp; omega) ⟨rfl, fun _ => rfl⟩) ?_
  rintro e W7 ⟨rfl, g1, S1, T1, j1, st1, i1⟩
  have hT1 := j1.hT
  have st1' : S1 ++ T1 = A := by rw [← HA.out]; simpa using st1
  have ST1 : Hid (S1 ++ T1 = A) := st1'
  have L1 : S1.length + T1.length = s1.size := by have := congrArg List.length ST1.out; rw [List.length_append, E1.out] at this; exact this
  have I1 : Hid (Inv5 S1 T1) := i1
  have J1 : Hid (WS W5 W7 (W5.heap.size + 1 + 1) W5.heap.size (W5.heap.size + 1) g1 S1 T1) := j1
  clear j1 st1 st1' i1
  have hs0 : S1.length = 0 := by omega
  have ht0 : T1.length = 0 := by omega
  obtain ⟨sa, sc, hsr, c9⟩ := sink9q J1.out.sk
  have C9 : Hid _ := c9
  have C11 : Hid (∀ n, _) := fun n => wbuf11q J1.out n
  have hal : (A ++ B ++ C).take S1.length = S1 := by rw [← ST1.out]; simp [List.append_assoc]
  have had : ((A ++ B ++ C).drop S1.length).take T1.length = T1 := by rw [← ST1.out]; simp [List.append_assoc]
  have CE1 : Hid (∀ n, _) := fun n => eq10q sa (some ⟨W4.heap.size, 0, none⟩) S1.length 0 sc (s1.size + s2.size + s3.size) S1 W7 n rfl (by exact hs0) (by omega) hsr (by have := (QALL.out.now' J1.out).take S1.length; rw [hal] at this; exact this)
  have CE2 : Hid (∀ n, _) := fun n => eq10q (some ⟨W5.heap.size + 1, 0, none⟩) (some ⟨W4.heap.size, 0, none⟩) T1.length s1.size 512 (s1.size + s2.size + s3.size) T1 W7 n rfl (by omega) (by omega) J1.out.rdT (by have := ((QALL.out.now' J1.out).drop S1.length).take T1.length; rw [had, Nat.zero_add, hs0] at this; exact this)
  have hb1 : (S1.length : Int) ≤ (s1.size : Int) + (s2.size : Int) + (s3.size : Int) := by omega
  have hb2 : (S1.length : Int) ≤ (s1.size : Int) := by omega
  have hb3 : (s1.size : Int) ≤ (s1.size : Int) + (s2.size : Int) + (s3.size : Int) := by omega
  have HL1 : Hid (S1.length + T1.length = s1.size) := L1
  clear hal had hsr c9 L1
  have HS0 : Hid (S1.length = 0) := hs0
  have HT0 : Hid (T1.length = 0) := ht0
  clear hs0 ht0
  go_wp2_with fail
  go_quiet (first | (go_at_call 9; exact Calls.quiet_of (C9.out _)) | (go_at_call 11; exact Calls.quiet_of_same (C11.out _)) | (go_at_call_of 10 (Value.slice sa S1.length sc); exact Calls.quiet_of (CE1.out _)) | (go_at_call 10; exact Calls.quiet_of (CE2.out _)))
  go_wp2_with fail
  -- w.WriteString(s2)
  rename Nat => qa
  refine Calls.mono (writestr16 (J1.out.drewN qa) s2 (by have := HL1.out; omega) I1.out) ?_
  rintro e W8 ⟨rfl, g2, S2, T2, j2, st2, i2⟩
  have hT2 := j2.hT
  have st2' : S2 ++ T2 = A ++ B := by rw [st2, ST1.out, HB.out]
  have ST2 : Hid (S2 ++ T2 = A ++ B) := st2'
  have L2 : S2.length + T2.length = s1.size + s2.size := by have := congrArg List.length st2'; rw [List.length_append, List.length_append, E1.out, E2.out] at this; exact this
  have I2 : Hid (Inv5 S2 T2) := i2
  have J2 : Hid (WS W5 W8 (W5.heap.size + 1 + 1) W5.heap.size (W5.heap.size + 1) g2 S2 T2) := j2
  have Z2 : Hid (T2.length = 0 → S2.length = 0) := fun e => by have := i2.2 (List.eq_nil_of_length_eq_zero e); rw [this]; rfl
  obtain ⟨sb2, sd2, hsr2, c92⟩ := sink9q j2.sk
  have D9 : Hid _ := c92
  have D11 : Hid (∀ n, _) := fun n => wbuf11q J2.out n
  have hal2 : (A ++ B ++ C).take (s1.size + s2.size) = A ++ B := by
    have e : (A ++ B).length = s1.size + s2.size := by rw [List.length_append, E1.out, E2.out]
    rw [← e, List.take_left']
    rfl
  have DS : Hid (∀ n, Calls Try.prog 12 #[.slice sb2 S2.length sd2, .slice (some ⟨W5.heap.size + 1, 0, none⟩) T2.length 512, .slice (some ⟨W4.heap.size, 0, none⟩) (s1.size + s2.size) (s1.size + s2.size + s3.size)] (W8.drewN n) fun e w' => e = .returned (.bool true) ∧ ∃ k, w' = (W8.drewN n).drewN k) := fun n =>
    stream12n sb2 _ _ (s1.size + s2.size) sd2 512 (s1.size + s2.size + s3.size) S2 T2 (A ++ B) (W8.drewN n) (by omega) hT2 (hsr2.drewN n) (J2.out.rdT.drewN n) ((by have := (QALL.out.now' J2.out).take (s1.size + s2.size); rw [hal2] at this; exact this : Rd W8 (some ⟨W4.heap.size, 0, none⟩) (A ++ B)).drewN n) ST2.out (by rw [List.length_append, E1.out, E2.out])
  have HL2 : Hid (S2.length + T2.length = s1.size + s2.size) := L2
  have hb4 : (s1.size : Int) + (s2.size : Int) ≤ (s1.size : Int) + (s2.size : Int) + (s3.size : Int) := by omega
  have htn : ((s1.size : Int) + (s2.size : Int)).toNat = s1.size + s2.size := by omega
  clear j2 st2 st2' i2 hsr2 c92 hal2 L2
  go_wp2_with fail
  go_quiet (first | (go_at_call 9; exact Calls.quiet_of (D9.out _)) | (go_at_call 11; exact Calls.quiet_of_same (D11.out _)) | (go_at_call 12; exact Calls.quiet_of (DS.out _)))
  go_wp2_with fail
  rename Nat => qb
  refine Calls.mono (wbuf11 (J2.out.drewN qb)) ?_
  rintro e w' ⟨rfl, rfl⟩
  have hzz : (T2.length ≤ 0 ∧ s1.size + s2.size ≤ 0) ∨ (1 ≤ T2.length ∧ 1 ≤ s1.size + s2.size) := by
    have a := Z2.out
    have b := HL2.out
    omega
  have C3 : Hid (Calls Try.prog 16 #[.pointer (some ⟨W5.heap.size + 1 + 1, 0, none⟩), .string s3] (W8.drewN qb) fun e w' => e = .returned (.tuple #[]) ∧ ∃ g' S' T', WS W5 w' (W5.heap.size + 1 + 1) W5.heap.size (W5.heap.size + 1) g' S' T' ∧ S' ++ T' = S2 ++ T2 ++ bl s3 ∧ Inv5 S' T') := writestr16 (J2.out.drewN qb) s3 (by have := HL2.out; omega) I2.out
  have HZ : Hid _ := hzz
  clear hzz
  obtain ⟨bz, t1, t2⟩ : ∃ bz : Bool, ((T2.length : Int) == 0) = bz ∧ ((s1.size : Int) + (s2.size : Int) == 0) = bz := by
    rcases HZ.out with ⟨hz1, hz2⟩ | ⟨hz1, hz2⟩
    · exact ⟨true, beq0 (by omega), beq0 (by omega)⟩
    · exact ⟨false, beqn (by omega), beqn (by omega)⟩
  clear HZ
  focus (
    go_wp2_with fail
    refine Calls.mono C3.out ?_
    rintro e W9 ⟨rfl, g3, S3, T3, j3, st3, i3⟩
    have hT3 := j3.hT
    have st3' : S3 ++ T3 = A ++ B ++ C := by rw [st3, ST2.out, HC.out]
    have ST3 : Hid (S3 ++ T3 = A ++ B ++ C) := st3'
    have L3 : S3.length + T3.length = s1.size + s2.size + s3.size := by have := congrArg List.length st3'; rw [List.length_append, List.length_append, List.length_append, E1.out, E2.out, E3.out] at this; exact this
    have hzz3 : (T3.length ≤ 0 ∧ s1.size + s2.size + s3.size ≤ 0) ∨ (1 ≤ T3.length ∧ 1 ≤ s1.size + s2.size + s3.size) := by
      have a : T3.length = 0 → S3.length = 0 := fun e => by have := i3.2 (List.eq_nil_of_length_eq_zero e); rw [this]; rfl
      omega
    have J3 : Hid (WS W5 W9 (W5.heap.size + 1 + 1) W5.heap.size (W5.heap.size + 1) g3 S3 T3) := j3
    have HZ3 : Hid _ := hzz3
    have HL3 : Hid (S3.length + T3.length = s1.size + s2.size + s3.size) := L3
    clear j3 st3 st3' i3 hzz3 L3
    go_wp2_with fail
    refine Calls.mono (sink9 J3.out.sk) ?_
    rintro e w' ⟨sa3, sc3, rfl, hsr3, q3, rfl⟩
    have HSR3 : Hid (Rd W9 sa3 S3) := hsr3
    clear hsr3
    go_wp2_with fail
    refine Calls.mono (wbuf11 (J3.out.drewN q3)) ?_
    rintro e w' ⟨rfl, rfl⟩
    go_wp2_with fail
    refine Calls.mono (stream12n sa3 _ _ (s1.size + s2.size + s3.size) sc3 _ _ S3 T3 (A ++ B ++ C) _ (by have := HL3.out; omega) hT3 (HSR3.out.drewN q3) (J3.out.rdT.drewN q3) ((QALL.out.now' J3.out).drewN q3) ST3.out (by rw [List.length_append, List.length_append, E1.out, E2.out, E3.out])) ?_
    rintro e w' ⟨rfl, q4, rfl⟩
    go_wp2_with fail
    refine Calls.mono (wbuf11 (J3.out.drewN (q3 + q4))) ?_
    rintro e w' ⟨rfl, rfl⟩
    have C4 : Hid (Calls Try.prog 13 #[.pointer (some ⟨W5.heap.size + 1 + 1, 0, none⟩)] (W9.drewN (q3 + q4)) fun e w' => e = .returned (.tuple #[]) ∧ ∃ g', WS W5 w' (W5.heap.size + 1 + 1) W5.heap.size (W5.heap.size + 1) g' (S3 ++ T3) []) := flush13 (J3.out.drewN (q3 + q4)) (by have := HL3.out; omega)
    obtain ⟨by3, t3, t4⟩ : ∃ bz : Bool, ((T3.length : Int) == 0) = bz ∧ ((s1.size : Int) + (s2.size : Int) + (s3.size : Int) == 0) = bz := by
      rcases HZ3.out with ⟨hz1, hz2⟩ | ⟨hz1, hz2⟩
      · exact ⟨true, beq0 (by omega), beq0 (by omega)⟩
      · exact ⟨false, beqn (by omega), beqn (by omega)⟩
    clear HZ3
    focus (
      go_wp2_with fail
      refine Calls.mono C4.out ?_
      rintro e W10 ⟨rfl, g4, j4⟩
      rw [ST3.out] at j4
      have J4 : Hid (WS W5 W10 (W5.heap.size + 1 + 1) W5.heap.size (W5.heap.size + 1) g4 (A ++ B ++ C) []) := j4
      clear j4
      go_wp2_with fail
      refine Calls.mono (sink9 J4.out.sk) ?_
      rintro e w' ⟨sa4, sc4, rfl, hsr4, q5, rfl⟩
      have HSR4 : Hid (Rd W10 sa4 (A ++ B ++ C)) := hsr4
      clear hsr4
      go_wp2_with fail
      refine Calls.mono (eq10n sa4 _ _ (s1.size + s2.size + s3.size) sc4 _ (A ++ B ++ C) _ (by simp only [List.length_append]; omega) (by rw [List.length_append, List.length_append, E1.out, E2.out, E3.out]) (by have := E1.out; have := E2.out; have := E3.out; omega) (HSR4.out.drewN q5) ((QALL.out.now' J4.out).drewN q5)) ?_
      rintro e w' ⟨rfl, q6, rfl⟩
      go_wp2_with fail
      refine Calls.mono (wbuf11 (J4.out.drewN (q5 + q6))) ?_
      rintro e w' ⟨rfl, rfl⟩
      go_wp2_with fail
      go_ret
      exact ⟨rfl, FIN.out _ (J4.out.drewN (q5 + q6)).below⟩))

end Go.Proofs.Qxb6613323a.Ws
