/-
  writeLongString (20): through the buffer, 512 bytes at a time.
-/
import Derived.Test.Qxb6613323aWsL
namespace Go.Proofs.Qxb6613323a.Ws
open Go.ChangeShapes Go.WideShapes Go.ChangeAt Go.RowKit

variable {w0 w w' : World} {wb sb gw : Nat} {g g' : Option Nat} {S T p : List Int}

/-- the size of a string in a slot. -/
def ssz : Value → Nat | .string r => r.size | _ => 0

/-- what a round of the loop hands on. -/
def Rnd (w0 : World) (wb sb gw : Nat) (All : List Int) (r : ByteArray) (wr : World) : Prop :=
  ∃ g S T, WS w0 wr wb sb gw g S T ∧ S ++ T ++ bl r = All ∧ S.length % 512 = 0 ∧ (r.size = 0 → T ≠ [])

theorem WS.drew (h : WS w0 w wb sb gw g S T) : WS w0 w.drew wb sb gw g S T := h.drewN 1

/-- how many bytes a round takes. -/
theorem take_how (n t : Nat) (hn : 0 < n) (ht : t < 512) : ∃ k : Nat, min (n : Int) (512 - (t : Int)) = (k : Int) ∧ 1 ≤ k ∧ k ≤ n ∧ t + k ≤ 512 ∧ (k = n ∨ t + k = 512) :=
  ⟨min n (512 - t), by omega, by omega, by omega, by omega, by omega⟩

/-- behind a round. -/
theorem rnd_next {wr : World} {g : Option Nat} {S T All : List Int} {r : ByteArray} {k : Nat} (hA : S ++ T ++ bl r = All) (h5 : S.length % 512 = 0) (hk1 : 1 ≤ k) (hk2 : k ≤ r.size)
    (h : WS w0 wr wb sb gw g S (T ++ (bl r).take k)) : Rnd w0 wb sb gw All (r.extract k r.size) wr := by
  refine ⟨g, S, _, h, ?_, h5, fun _ e => ?_⟩
  · rw [bl_drop, ← hA]
    simp [List.append_assoc, List.take_append_drop]
  · have := congrArg List.length e
    rw [List.length_append, List.length_take, bl_length, List.length_nil] at this
    omega

set_option maxHeartbeats 2000000 in
theorem longstr (h : WS w0 w wb sb gw g S T) (s : ByteArray) (hS : S.length + T.length + s.size ≤ 1048576) (h5 : S.length % 512 = 0) (hfit : 512 < T.length + s.size) :
    Calls Try.prog 20 #[.pointer (some ⟨wb, 0, none⟩), .string s] w fun e w' => e = .returned (.tuple #[]) ∧ ∃ g' S' T', WS w0 w' wb sb gw g' S' T' ∧ S' ++ T' = S ++ T ++ bl s ∧ S'.length % 512 = 0 ∧ T' ≠ [] := by
  have hT := h.hT
  have c0 := h.c0
  obtain ⟨All, hAll⟩ : ∃ All, All = S ++ T ++ bl s := ⟨_, rfl⟩
  have HL : Hid (All.length ≤ 1048576) := by rw [hAll]; simp only [List.length_append, bl_length]; exact hS
  rw [← hAll]
  have R0 : Hid (Rnd w0 wb sb gw All s w) := ⟨g, S, T, h, hAll.symm, h5, fun e => by omega⟩
  clear h hAll
  go_enter Try.func20, Try.ntmps20
  go_wp2_with fail
  go_loopw [1] (fun sv wr => ∃ r : ByteArray, sv = .string r ∧ Hid (Rnd w0 wb sb gw All r wr)) (fun sv _ => ssz sv)
  case atStart => exact ⟨s, rfl, R0.out⟩
  case round =>
    obtain ⟨r, rfl, hR⟩ := hrel
    obtain ⟨g1, S1, T1, h1, hall, h51, hne⟩ := hR.out
    by_cases hz : r.size = 0
    · have FIN : Hid (∃ g' S' T', WS w0 wr wb sb gw g' S' T' ∧ S' ++ T' = All ∧ S'.length % 512 = 0 ∧ T' ≠ []) := ⟨g1, S1, T1, h1, by rw [← hall, List.eq_nil_of_length_eq_zero ((bl_length r).trans hz), List.append_nil], h51, hne hz⟩
      clear h1 hall h51 hne hR
      go_wp2_with fail
      go_returns
      exact ⟨rfl, FIN.out⟩
    · have c1 := h1.c1
      have hT1 := h1.hT
      have H1 : Hid (WS w0 wr wb sb gw g1 S1 T1) := h1
      have HA : Hid (S1 ++ T1 ++ bl r = All) := hall
      clear h1 hall hR hne
      have hpos : (0 : Int) < (r.size : Int) := by omega
      by_cases hf : T1.length = 512
      · have HF : Hid (T1.length = 512) := hf
        have hSl : S1.length ≤ 1048576 := by have := HL.out; rw [← HA.out, List.length_append, List.length_append] at this; omega
        have C : Hid (∀ q, Calls Try.prog 13 #[.pointer (some ⟨wb, 0, none⟩)] (wr.drewN q) fun e w' => e = .returned (.tuple #[]) ∧ ∃ g', WS w0 w' wb sb gw g' (S1 ++ T1) []) := fun q => flush13 (H1.out.drewN q) hSl
        go_wp2_with fail
        go_quiet (fail)
        go_wp2_with fail
        refine Calls.mono (C.out nq) ?_
        rintro e W1 ⟨rfl, g2, h2⟩
        have H2 : Hid (WS w0 W1 wb sb gw g2 (S1 ++ T1) []) := h2
        have c2 := h2.c1
        rw [List.length_nil] at c2
        clear h2 c1
        go_wp2_with fail
        obtain ⟨k, hk0, hk1, hk2, hk3, hk4⟩ := take_how r.size 0 (by omega) (by omega)
        have hk : min (r.size : Int) 512 = (k : Int) := by simpa using hk0
        clear hk0
        go_quiet (fail)
        rename Nat => q2
        have H3 : Hid (WS w0 (W1.drewN (q2 + 1)) wb sb gw g2 (S1 ++ T1) []) := H2.out.drewN (q2 + 1)
        go_wp2_with fail
        obtain ⟨W2, hap, J, hrow⟩ := H3.out.append (p := (bl r).take k) 9 (.string (r.extract 0 k)) (by rw [← bl_take]; exact strSrc _) (by rw [List.length_take, bl_length]; simp; omega)
        have hlk : ((bl r).take k).length = k := by rw [List.length_take, bl_length]; omega
        rw [hlk] at hap
        simp only [List.length_nil, List.nil_append] at hap hrow
        have JJ : Hid (WS w0 W2 wb sb gw g2 (S1 ++ T1) []) := J
        have HW : Hid _ := hrow
        have FT : Hid (((bl r).take k).length = k) := hlk
        have d1 := J.c1
        have e1 := J.free 1
        have HP : Hid _ := hap 22
        clear J hrow hap hlk
        go_region_law (refine step_append_run rfl (.tmp 53) (.tmp 56) 22 9 rfl _ _ rfl rfl _ _ HP.out ?_)
        show Exit.inBlock 1 _ Exit.normal (Act.put _ (some 1) _) _
        simp only [Act.put, List.setIfInBounds_toArray, List.set_cons_succ, List.set_cons_zero]
        go_wp2
        go_roundw
        case rel =>
          have fin := JJ.out.sliced (T2 := (bl r).take k) (by rw [FT.out]; omega) HW.out
          rw [FT.out] at fin
          exact ⟨_, rfl, rnd_next (S := S1 ++ T1) (T := []) (by rw [List.append_nil]; exact HA.out) (by rw [List.length_append, hf]; omega) hk1 hk2 fin⟩
        case measure => simp [ssz]; omega
      · have hf' : ((T1.length : Int) == 512) = false := by simp; omega
        go_wp2_with fail
        go_quiet (fail)
        rename Nat => q1
        go_wp2_with fail
        obtain ⟨k, hk, hk1, hk2, hk3, hk4⟩ := take_how r.size T1.length (by omega) (by omega)
        go_quiet (fail)
        rename Nat => q2
        have H3 : Hid (WS w0 (wr.drewN (q1 + q2 + 1)) wb sb gw g1 S1 T1) := H1.out.drewN (q1 + q2 + 1)
        go_wp2_with fail
        obtain ⟨W2, hap, J, hrow⟩ := H3.out.append (p := (bl r).take k) 9 (.string (r.extract 0 k)) (by rw [← bl_take]; exact strSrc _) (by rw [List.length_take, bl_length]; omega)
        have hlk : ((bl r).take k).length = k := by rw [List.length_take, bl_length]; omega
        rw [hlk] at hap
        have JJ : Hid (WS w0 W2 wb sb gw g1 S1 T1) := J
        have HW : Hid _ := hrow
        have FT : Hid ((T1 ++ (bl r).take k).length = T1.length + k) := (List.length_append).trans (by rw [hlk])
        have d1 := J.c1
        have e1 := J.free 1
        have HP : Hid _ := hap 22
        clear J hrow hap hlk
        go_region_law (refine step_append_run rfl (.tmp 53) (.tmp 56) 22 9 rfl _ _ rfl rfl _ _ HP.out ?_)
        show Exit.inBlock 1 _ Exit.normal (Act.put _ (some 1) _) _
        simp only [Act.put, List.setIfInBounds_toArray, List.set_cons_succ, List.set_cons_zero]
        go_wp2
        go_roundw
        case rel =>
          have fin := JJ.out.sliced (T2 := T1 ++ (bl r).take k) (by rw [FT.out]; omega) HW.out
          rw [FT.out] at fin
          exact ⟨_, rfl, rnd_next HA.out h51 hk1 hk2 fin⟩
        case measure => simp [ssz]; omega

set_option maxHeartbeats 1000000 in
theorem str_to20 (h : WS w0 w wb sb gw g S T) (s : ByteArray) (hfit : 512 < T.length + s.size) (R : World → Prop)
    (C0 : ∀ q, Calls Try.prog 20 #[.pointer (some ⟨wb, 0, none⟩), .string s] (w.drewN q) fun e w' => e = .returned (.tuple #[]) ∧ R w') :
    Calls Try.prog 16 #[.pointer (some ⟨wb, 0, none⟩), .string s] w fun e w' => e = .returned (.tuple #[]) ∧ R w' := by
  have c1 := h.c1
  have hT := h.hT
  have C : Hid _ := C0
  clear h C0
  go_enter Try.func16, Try.ntmps16
  go_wp2_with fail
  go_quiet (fail)
  go_wp2_with fail
  refine Calls.mono (C.out nq) ?_
  rintro e W1 ⟨rfl, h1⟩
  go_wp2_with fail
  go_end0
  exact ⟨rfl, h1⟩

/-- what every write of a string keeps: the sink holds a multiple of 512 bytes; the buffer is empty only where nothing was written. -/
def Inv5 (S T : List Int) : Prop := S.length % 512 = 0 ∧ (T = [] → S = [])

/-- (*Writer).WriteString. -/
theorem writestr16 (h : WS w0 w wb sb gw g S T) (s : ByteArray) (hS : S.length + T.length + s.size ≤ 1048576) (hI : Inv5 S T) :
    Calls Try.prog 16 #[.pointer (some ⟨wb, 0, none⟩), .string s] w fun e w' => e = .returned (.tuple #[]) ∧ ∃ g' S' T', WS w0 w' wb sb gw g' S' T' ∧ S' ++ T' = S ++ T ++ bl s ∧ Inv5 S' T' := by
  by_cases hfit : T.length + s.size ≤ 512
  · refine (str_fits h s hfit).mono ?_
    rintro e w' ⟨rfl, h1⟩
    refine ⟨rfl, g, S, T ++ bl s, h1, by rw [List.append_assoc], hI.1, fun e => hI.2 ?_⟩
    exact (List.append_eq_nil_iff.1 e).1
  · refine str_to20 h s (by omega) (fun w' => ∃ g' S' T', WS w0 w' wb sb gw g' S' T' ∧ S' ++ T' = S ++ T ++ bl s ∧ Inv5 S' T') ?_
    intro q
    refine (longstr (h.drewN q) s hS hI.1 (by omega)).mono ?_
    rintro e w' ⟨rfl, g', S', T', h1, h2, h3, h4⟩
    exact ⟨rfl, g', S', T', h1, h2, h3, fun e => absurd e h4⟩

end Go.Proofs.Qxb6613323a.Ws
