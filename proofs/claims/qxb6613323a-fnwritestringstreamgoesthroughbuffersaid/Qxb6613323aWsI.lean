/-
  (*Writer).Write (8) and writeLong (18).
-/
import Derived.Test.Qxb6613323aWsH
import Derived.Lib.AppendZeros
namespace Go.Proofs.Qxb6613323a.Ws
open Go.ChangeShapes Go.WideShapes Go.ChangeAt Go.RowKit

variable {w0 w w' : World} {wb sb gw : Nat} {g g' : Option Nat} {S T p : List Int}

/-- a slice that leads to the bytes p, as what an append takes. -/
theorem Rd.toSrc {a : Option Addr} (h : Rd w a p) (c : Nat) : Src Try.prog 1 22 (.slice a p.length c) p.length (U p) w := by
  rcases h with rfl | ⟨b, o, rfl, hc⟩
  · cases a with
    | none => exact Src.ofNil w Try.underlying22 c
    | some x => exact Src.ofSlice w Try.underlying22 x 0 c [] (by simp) (by simp) (by simp)
  · refine Src.ofSlice w Try.underlying22 _ p.length c (U p) (by rw [U_length, Nat.mul_one]) ?_ (U_one p)
    intro j v hj
    have hjl : j < p.length := by have := (List.getElem?_eq_some_iff.1 hj).1; rwa [U_length] at this
    rw [U_get p j hjl] at hj
    cases hj
    rw [Addr.add_lit]
    exact hc j hjl

theorem Rd.cellsOf {b o : Nat} (h : Rd w (some ⟨b, o, none⟩) p) : ∀ j v, (U p)[j]? = some v → w.cell? ((⟨b, o, none⟩ : Addr).add j) = some v := by
  intro j v hj
  have hjl : j < p.length := by have := (List.getElem?_eq_some_iff.1 hj).1; rwa [U_length] at this
  rw [U_get p j hjl] at hj
  cases hj
  rcases h with rfl | ⟨b', o', e, hc⟩
  · cases hjl
  · cases e
    rw [Addr.add_lit]
    exact hc j hjl

/-- the slice lies in memory that was there in w0. -/
def Old (w0 : World) (a : Option Addr) (p : List Int) : Prop := ∀ b o, a = some ⟨b, o, none⟩ → p ≠ [] → b < w0.heap.size

theorem Rd.old {a : Option Addr} (h : Rd w0 a p) : Old w0 a p := fun b o e hl => by subst e; exact h.lt hl

set_option maxHeartbeats 1000000 in
theorem write_fits (h : WS w0 w wb sb gw g S T) (a : Option Addr) (c : Nat) (hr : Rd w a p) (hfit : T.length + p.length ≤ 512) :
    Calls Try.prog 8 #[.pointer (some ⟨wb, 0, none⟩), .slice a p.length c] w fun e w' => e = .returned (.tuple #[]) ∧ WS w0 w' wb sb gw g S (T ++ p) := by
  have c1 := h.c1
  have H : Hid (WS w0 w wb sb gw g S T) := h
  have HR : Hid (Rd w a p) := hr
  clear h hr
  go_enter Try.func8, Try.ntmps8
  go_wp2_with fail
  go_quiet (fail)
  obtain ⟨W2, hap, J, hrow⟩ := (H.out.drewN nq).append 22 (.slice a p.length c) ((HR.out.drewN nq).toSrc c) hfit
  have JJ : Hid (WS w0 W2 wb sb gw g S T) := J
  have HW : Hid _ := hrow
  have d1 := J.c1
  have e1 := J.free 1
  have HA : Hid _ := hap 22
  clear J hrow hap
  go_wp2_with (at_builtin; refine Lib.wpList_append_run _ rfl _ _ _ _ rfl _ _ rfl rfl _ _ HA.out ?_)
  go_end0
  have fin := JJ.out.sliced (T2 := T ++ p) (by rw [List.length_append]; exact hfit) HW.out
  rw [List.length_append] at fin
  exact ⟨rfl, fin⟩

set_option maxHeartbeats 1000000 in
theorem long_short (h : WS w0 w wb sb gw g S T) (hS : S.length ≤ 1048576) (a : Option Addr) (c : Nat) (hr : Rd w0 a p) (hp : p.length ≤ 512) :
    Calls Try.prog 18 #[.pointer (some ⟨wb, 0, none⟩), .slice a p.length c] w fun e w' => e = .returned (.tuple #[]) ∧ ∃ g', WS w0 w' wb sb gw g' (S ++ T) p := by
  have c0 := h.c0
  have C : Hid _ := flush13 h hS
  have H : Hid (WS w0 w wb sb gw g S T) := h
  have HR : Hid (Rd w0 a p) := hr
  clear h hr
  go_enter Try.func18, Try.ntmps18
  go_wp2_with fail
  refine Calls.mono C.out ?_
  rintro e W1 ⟨rfl, g1, h1⟩
  have d1 := h1.c1
  simp only [List.length_nil] at d1
  obtain ⟨W2, hap, J, hrow⟩ := h1.append 22 (.slice a p.length c) ((HR.out.of_below h1.below HR.out.old).toSrc c) (by simpa using hp)
  simp only [List.length_nil, Nat.zero_add, List.nil_append] at hap hrow
  have JJ : Hid (WS w0 W2 wb sb gw g1 (S ++ T) []) := J
  have HW : Hid _ := hrow
  have d2 := J.c1
  have e2 := J.free 1
  have HA : Hid _ := hap 22
  clear J hrow h1 hap
  go_wp2_with (at_builtin; refine Lib.wpList_append_run _ rfl _ _ _ _ rfl _ _ rfl rfl _ _ HA.out ?_)
  go_end0
  exact ⟨rfl, g1, JJ.out.sliced (T2 := p) hp HW.out⟩

set_option maxHeartbeats 1000000 in
theorem long_long (h : WS w0 w wb sb gw g S T) (hS : S.length ≤ 1048576) (b o : Nat) (c : Nat) (hr : Rd w0 (some ⟨b, o, none⟩) p) (hp : 512 < p.length) (hpl : p.length ≤ 1048576) :
    Calls Try.prog 18 #[.pointer (some ⟨wb, 0, none⟩), .slice (some ⟨b, o, none⟩) p.length c] w fun e w' => e = .returned (.tuple #[]) ∧ ∃ g', WS w0 w' wb sb gw g' (S ++ T ++ p) [] := by
  have c0 := h.c0
  have hT := h.hT
  have hns := h.ns
  have C : Hid _ := flush13 h hS
  have HR : Hid (Rd w0 (some ⟨b, o, none⟩) p) := hr
  have hb : b < w0.heap.size := hr.lt (by intro e; rw [e] at hp; simp at hp)
  clear h hr
  go_enter Try.func18, Try.ntmps18
  go_wp2_with fail
  refine Calls.mono C.out ?_
  rintro e W1 ⟨rfl, g1, h1⟩
  have d1 := h1.c1
  have d0 := h1.c0
  simp only [List.length_nil] at d1
  have CW : Hid _ := write38 sb g1 (S ++ T) p ⟨b, o, none⟩ p.length c W1 h1.sk rfl (by show b ≠ sb; omega) ((HR.out.of_below h1.below HR.out.old).cellsOf) (by rw [List.length_append]; omega)
  have H1 : Hid (WS w0 W1 wb sb gw g1 (S ++ T) []) := h1
  clear h1
  go_wp2_with fail
  refine Calls.mono CW.out ?_
  rintro e W2 ⟨rfl, g2, hs, hg, hM⟩
  go_wp2_with fail
  go_returns
  exact ⟨rfl, g2, H1.out.sunk hs hg hM⟩

end Go.Proofs.Qxb6613323a.Ws
