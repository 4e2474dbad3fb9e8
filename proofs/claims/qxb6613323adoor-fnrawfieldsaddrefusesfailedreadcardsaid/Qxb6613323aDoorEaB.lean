/-
  zzb1Clone (14), zzb1SpanIs (16), ZZrawCount where there is one field, ZZrawBytes told whole, the length test (13).
-/
import Derived.Test.Qxb6613323aDoorEaA
namespace Go.Proofs.Qxb6613323aDoor.Do
open Go.ChangeShapes Go.WideShapes Go.ChangeAt Go.RowKit

set_option maxHeartbeats 1000000 in
theorem clone_nil (w : World) :
    Calls Tryd.prog 14 #[.slice none 0 0] w fun e w' => e = .returned (.slice none 0 0) ∧ w = w' := by
  have q22 : ∀ (w : World) (a : Option Addr) (n c n' c' : Nat), (binOp .eql 22 (.slice a n c) (.slice none n' c')).run Tryd.prog w = .ok (.bool a.isNone) w := fun w a n c n' c' => Lib.run_eql_slice_nil w _ _ a n c n' c' Tryd.underlying22
  go_enter Tryd.func14, Tryd.ntmps14
  go_wp2
  go_ret
  exact ⟨rfl, rfl⟩

set_option maxHeartbeats 1000000 in
theorem clone_row (b o m c : Nat) (l : List Int) (w : World) (hm : l.length = m) (hs : m ≤ 524288) (h : Rd w (some ⟨b, o, none⟩) l) :
    Calls Tryd.prog 14 #[.slice (some ⟨b, o, none⟩) m c] w fun e w' => e = .returned (.slice (some ⟨w.heap.size, 0, none⟩) m m) ∧ Rd w' (some ⟨w.heap.size, 0, none⟩) l ∧ Below w.heap.size w w' := by
  have q22 : ∀ (w : World) (a : Option Addr) (n c n' c' : Nat), (binOp .eql 22 (.slice a n c) (.slice none n' c')).run Tryd.prog w = .ok (.bool a.isNone) w := fun w a n c n' c' => Lib.run_eql_slice_nil w _ _ a n c n' c' Tryd.underlying22
  obtain ⟨W1, hmk0, hF⟩ := fill_start w l m (by omega)
  have hmk := hmk0 (m : Int) rfl
  clear hmk0
  have F0 : Hid (Fill w.heap.size w l m 0 W1) := hF
  have B1 : Hid (∀ b' o', some (⟨b, o, none⟩ : Addr) = some ⟨b', o', none⟩ → l ≠ [] → b' < w.heap.size) := fun b' o' e hl => by cases e; exact h.lt hl
  have H1 : Hid (Rd w (some ⟨b, o, none⟩) l) := h
  have HM : Hid (l.length = m) := hm
  have FIN : Hid (∀ wr, Fill w.heap.size w l m m wr → Rd wr (some ⟨w.heap.size, 0, none⟩) l) := fun wr h => .inr ⟨_, _, rfl, fun i hi => by rw [Nat.zero_add]; exact h.done i (by omega)⟩
  clear hF h hm
  go_enter Tryd.func14, Tryd.ntmps14
  go_wp2
  go_loopw [4] (fun i wr => ∃ k : Nat, k ≤ m ∧ i = .int .i64 k ∧ Fill w.heap.size w l m k wr) (fun i _ => m - (intOf i).toNat)
  case atStart => exact ⟨0, Nat.zero_le _, rfl, F0.out⟩
  case round =>
    obtain ⟨k, hk, rfl, hF⟩ := hrel
    by_cases hlt : (k : Int) < (m : Int)
    · have R1 := H1.out.of_below hF.below B1.out
      obtain ⟨b1, o1, e1, hc1⟩ := R1.at HM.out (k := k) (by omega)
      cases e1
      obtain ⟨v, hcN⟩ := hF.there k (by omega)
      have hfN := hF.free k
      have HS : Hid _ := hF.set (by omega)
      clear hF R1
      go_wp2_with fail
      go_roundw
      case rel => exact ⟨k + 1, by omega, by go_num, HS.out⟩
      case measure => simp [intOf]; omega
    · obtain rfl : k = m := by omega
      have HF : Hid _ := hF
      clear hF
      go_wp2_with fail
      go_ret
      exact ⟨rfl, FIN.out _ HF.out, HF.out.below⟩

/-- what ZZrawBytes hands out. -/
def Raw (w : World) (a : Option Addr) (c : Nat) (R : List Int) : Prop := Rd w a R ∧ (a = none ∧ c = 0 ∧ R = [] ∨ ∃ k, a = some ⟨k, 0, none⟩ ∧ R.length ≤ c ∧ c ≤ maxLen)

theorem raw11' {w : World} {sb : Nat} {S : List Int} {fs : Value} {g : Option Nat} (h : Sk w sb S fs g) :
    Calls Tryd.prog 11 #[.pointer (some ⟨sb, 0, none⟩)] w fun e w' => ∃ a c, e = .returned (.slice a S.length c) ∧ Raw w a c S ∧ ∃ n, w' = w.drewN n := by
  have C : Hid (Calls Tryd.prog 19 #[.pointer (some ⟨sb, 0, none⟩)] w fun e w' => ∃ a c, e = .returned (.slice a S.length c) ∧ Raw w a c S ∧ ∃ n, w' = w.drewN n) := by
    cases g with
    | none =>
      obtain ⟨rfl, lr, hb⟩ := h
      refine (bytes19_nil lr hb).mono ?_
      rintro e w' ⟨rfl, hn⟩
      exact ⟨none, 0, rfl, ⟨.inl rfl, .inl ⟨rfl, rfl, rfl⟩⟩, hn⟩
    | some g =>
      have hr := h.rd
      obtain ⟨cap, cur, lr, hb, _, _, hl, hc, _⟩ := h
      refine (bytes19_row g S.length cap lr hb hl hc).mono ?_
      rintro e w' ⟨rfl, hn⟩
      exact ⟨_, cap, rfl, ⟨hr, .inr ⟨g, rfl, hl, hc⟩⟩, hn⟩
  clear h
  go_enter Tryd.func11, Tryd.ntmps11
  go_wp2_with fail
  refine Calls.mono C.out ?_
  rintro e w' ⟨a, c, rfl, hr, n, rfl⟩
  go_wp2_with fail
  go_ret
  exact ⟨a, c, rfl, hr, n, rfl⟩

theorem Rd.span {w : World} {k : Nat} {R : List Int} {st en : Nat} (h : Rd w (some ⟨k, 0, none⟩) R) (hs : st ≤ en) (he : en ≤ R.length) : Rd w (some ⟨k, st, none⟩) ((R.drop st).take (en - st)) := by
  rcases h with h | ⟨b, o, e, hc⟩
  · left
    rw [h]; simp
  · cases e
    refine .inr ⟨k, st, rfl, fun i hi => ?_⟩
    rw [List.length_take, List.length_drop] at hi
    have h1 := hc (st + i) (by omega)
    rw [Nat.zero_add] at h1
    rw [h1]
    congr 2
    unfold bt
    rw [List.getD_eq_getElem?_getD, List.getD_eq_getElem?_getD, List.getElem?_take_of_lt (by omega), List.getElem?_drop]

set_option maxHeartbeats 1000000 in
theorem span16 (ra wa : Option Addr) (n c st en m cw : Nat) (R lw : List Int) (w : World) (hR : Raw w ra c R) (hn : R.length = n) (hl : n ≤ 1048576) (hw : Rd w wa lw) (hse : st ≤ en) (hen : en ≤ n) (hlw : (R.drop st).take (en - st) = lw) (hm : lw.length = m) :
    Calls Tryd.prog 16 #[.slice ra n c, .int .i64 st, .int .i64 en, .slice wa m cw] w fun e w' => e = .returned (.bool true) ∧ ∃ k, w' = w.drewN k := by
  have hmm : en - st = m := by rw [← hm, ← hlw, List.length_take, List.length_drop]; omega
  have i1 : ¬ (st : Int) < 0 := by omega
  have i2 : ¬ (en : Int) < (st : Int) := by omega
  have i3 : ¬ (n : Int) < (en : Int) := by omega
  obtain ⟨hr, hc | ⟨k, hk, hlc, hcm⟩⟩ := hR
  · obtain ⟨rfl, rfl, rfl⟩ := hc
    obtain rfl : n = 0 := by simpa using hn.symm
    obtain rfl : en = 0 := by omega
    obtain rfl : st = 0 := by omega
    obtain rfl : m = 0 := by omega
    obtain rfl : lw = [] := List.eq_nil_of_length_eq_zero hm
    have C : Hid (Calls Tryd.prog 10 #[.slice none 0 0, .slice wa 0 cw] w fun e w' => e = .returned (.bool true) ∧ ∃ k, w' = w.drewN k) := eq10n none wa 0 0 0 cw [] w rfl rfl (by omega) (.inl rfl) hw
    clear hr hw hn hm hlw hmm
    go_enter Tryd.func16, Tryd.ntmps16
    go_wp2_with fail
    refine Calls.mono C.out ?_
    rintro e w' ⟨rfl, q, rfl⟩
    go_wp2_with fail
    go_ret
    exact ⟨rfl, q, rfl⟩
  · subst hk
    have hsp := hr.span hse (by omega)
    rw [hlw] at hsp
    unfold maxLen at hcm
    by_cases hcs : c = st
    · obtain rfl : en = st := by omega
      obtain rfl : m = 0 := by omega
      obtain rfl : lw = [] := List.eq_nil_of_length_eq_zero hm
      have C : Hid (∀ x y, Calls Tryd.prog 10 #[.slice x 0 y, .slice wa 0 cw] w fun e w' => e = .returned (.bool true) ∧ ∃ k, w' = w.drewN k) := fun x y => eq10n x wa 0 0 y cw [] w rfl rfl (by omega) (.inl rfl) hw
      subst hcs
      clear hr hw hm hlw hmm hsp
      go_enter Tryd.func16, Tryd.ntmps16
      go_wp2_with fail
      refine Calls.mono (C.out _ _) ?_
      rintro e w' ⟨rfl, q, rfl⟩
      go_wp2_with fail
      go_ret
      exact ⟨rfl, q, rfl⟩
    · have C : Hid (∀ y, Calls Tryd.prog 10 #[.slice (some ⟨k, st, none⟩) (en - st) y, .slice wa m cw] w fun e w' => e = .returned (.bool true) ∧ ∃ k, w' = w.drewN k) := fun y => eq10n _ wa (en - st) m y cw lw w (by omega) hm (by omega) hsp hw
      clear hr hw hm hlw hsp hmm
      go_enter Tryd.func16, Tryd.ntmps16
      go_wp2_with fail
      refine Calls.mono (C.out _) ?_
      rintro e w' ⟨rfl, q, rfl⟩
      go_wp2_with fail
      go_ret
      exact ⟨rfl, q, rfl⟩

set_option maxHeartbeats 400000 in
theorem count9_1 {N sb : Nat} {w : World} {S : List Int} {g : Option Nat} {fs : Value} {xs : List Value} (h : AD N w sb S g fs 1 xs) :
    Calls Tryd.prog 9 #[.pointer (some ⟨sb, 0, none⟩)] w fun e w' => e = .returned (.int .i64 1) ∧ w = w' := by
  obtain ⟨fb, cap, e, _, _⟩ := h.slice (by omega)
  have c3 := h.sk.c3
  rw [e] at c3
  clear h e
  go_enter Tryd.func9, Tryd.ntmps9
  go_wp2
  go_ret
  exact ⟨rfl, rfl⟩

set_option maxHeartbeats 2000000 in
theorem bytes13_any (s1 s2 s3 : ByteArray) (a1 a2 a3 : Option Addr) (m1 m2 m3 c1 c2 c3 : Nat) (w : World) :
    Calls Tryd.prog 13 #[.string s1, .slice a1 m1 c1, .string s2, .slice a2 m2 c2, .string s3, .slice a3 m3 c3] w fun e w' => ∃ b, e = .returned (.bool b) ∧ w = w' := by
  go_enter Tryd.func13, Tryd.ntmps13
  go_wp2
  all_goals (go_ret; exact ⟨_, rfl, rfl⟩)

set_option maxHeartbeats 2000000 in
theorem bytes13_yes (s1 s2 s3 : ByteArray) (a1 a2 a3 : Option Addr) (m1 m2 m3 c1 c2 c3 : Nat) (w : World) (h1 : (s1.size : Int) ≤ 65536) (h2 : (m1 : Int) ≤ 65536) (h3 : (s2.size : Int) ≤ 65536) (h4 : (m2 : Int) ≤ 65536) (h5 : (s3.size : Int) ≤ 65536) (h6 : (m3 : Int) ≤ 65536) :
    Calls Tryd.prog 13 #[.string s1, .slice a1 m1 c1, .string s2, .slice a2 m2 c2, .string s3, .slice a3 m3 c3] w fun e w' => e = .returned (.bool true) ∧ w = w' := by
  go_enter Tryd.func13, Tryd.ntmps13
  go_wp2
  go_ret
  exact ⟨rfl, rfl⟩

end Go.Proofs.Qxb6613323aDoor.Do
