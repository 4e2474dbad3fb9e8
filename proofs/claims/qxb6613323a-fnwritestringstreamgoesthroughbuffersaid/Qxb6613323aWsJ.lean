/-
  (*Writer).Write as a whole, and the contracts once more with the lengths as numbers of their own.
-/
import Derived.Test.Qxb6613323aWsI
namespace Go.Proofs.Qxb6613323a.Ws
open Go.ChangeShapes Go.WideShapes Go.ChangeAt Go.RowKit

variable {w0 w w' : World} {wb sb gw : Nat} {g g' : Option Nat} {S T p : List Int}

set_option maxHeartbeats 1000000 in
theorem write_to18 (h : WS w0 w wb sb gw g S T) (a : Option Addr) (n c : Nat) (hfit : 512 < T.length + n) (R : World → Prop)
    (C0 : ∀ q, Calls Try.prog 18 #[.pointer (some ⟨wb, 0, none⟩), .slice a n c] (w.drewN q) fun e w' => e = .returned (.tuple #[]) ∧ R w') :
    Calls Try.prog 8 #[.pointer (some ⟨wb, 0, none⟩), .slice a n c] w fun e w' => e = .returned (.tuple #[]) ∧ R w' := by
  have c1 := h.c1
  have hT := h.hT
  have C : Hid _ := C0
  clear h C0
  go_enter Try.func8, Try.ntmps8
  go_wp2_with fail
  go_quiet (fail)
  go_wp2_with fail
  refine Calls.mono (C.out nq) ?_
  rintro e W1 ⟨rfl, h1⟩
  go_wp2_with fail
  go_end0
  exact ⟨rfl, h1⟩

theorem write_long (h : WS w0 w wb sb gw g S T) (hS : S.length ≤ 1048576) (a : Option Addr) (c : Nat) (hr : Rd w0 a p) (hpl : p.length ≤ 1048576) (hfit : 512 < T.length + p.length) :
    Calls Try.prog 8 #[.pointer (some ⟨wb, 0, none⟩), .slice a p.length c] w fun e w' => e = .returned (.tuple #[]) ∧ ∃ g', WS w0 w' wb sb gw g' (if p.length ≤ 512 then S ++ T else S ++ T ++ p) (if p.length ≤ 512 then p else []) := by
  refine write_to18 h a p.length c hfit (fun w' => ∃ g', WS w0 w' wb sb gw g' (if p.length ≤ 512 then S ++ T else S ++ T ++ p) (if p.length ≤ 512 then p else [])) ?_
  intro q
  by_cases hp : p.length ≤ 512
  · rw [if_pos hp, if_pos hp]
    exact long_short (h.drewN q) hS a c hr hp
  · rw [if_neg hp, if_neg hp]
    rcases hr with e | ⟨b, o, e, hc⟩
    · rw [e] at hp; simp at hp
    · subst e
      exact long_long (h.drewN q) hS b o c (.inr ⟨b, o, rfl, hc⟩) (by omega) hpl

/-- whatever is written: the sink's bytes and the buffer's, one behind the other, are what they were and p. -/
theorem write8 (h : WS w0 w wb sb gw g S T) (hS : S.length ≤ 1048576) (a : Option Addr) (n c : Nat) (hn : p.length = n) (hr : Rd w0 a p) (hpl : p.length ≤ 1048576) :
    Calls Try.prog 8 #[.pointer (some ⟨wb, 0, none⟩), .slice a n c] w fun e w' => e = .returned (.tuple #[]) ∧ ∃ g' S' T', WS w0 w' wb sb gw g' S' T' ∧ S' ++ T' = S ++ T ++ p := by
  subst hn
  by_cases hfit : T.length + p.length ≤ 512
  · refine (write_fits h a c (hr.of_below h.below hr.old) hfit).mono ?_
    rintro e w' ⟨rfl, h1⟩
    exact ⟨rfl, g, S, T ++ p, h1, by simp⟩
  · refine (write_long h hS a c hr hpl (by omega)).mono ?_
    rintro e w' ⟨rfl, g1, h1⟩
    refine ⟨rfl, g1, _, _, h1, ?_⟩
    split <;> simp

/-- a first write that fits is gathered. -/
theorem write8_short (h : WS w0 w wb sb gw g [] []) (a : Option Addr) (n c : Nat) (hn : p.length = n) (hr : Rd w0 a p) (hp : p.length ≤ 512) :
    Calls Try.prog 8 #[.pointer (some ⟨wb, 0, none⟩), .slice a n c] w fun e w' => e = .returned (.tuple #[]) ∧ WS w0 w' wb sb gw g [] p := by
  subst hn
  refine (write_fits h a c (hr.of_below h.below hr.old) (by simpa using hp)).mono ?_
  rintro e w' ⟨rfl, h1⟩
  exact ⟨rfl, by simpa using h1⟩

/-- a first write that does not fit goes on whole. -/
theorem write8_long (h : WS w0 w wb sb gw g [] []) (a : Option Addr) (n c : Nat) (hn : p.length = n) (hr : Rd w0 a p) (hp : ¬ p.length ≤ 512) (hpl : p.length ≤ 1048576) :
    Calls Try.prog 8 #[.pointer (some ⟨wb, 0, none⟩), .slice a n c] w fun e w' => e = .returned (.tuple #[]) ∧ ∃ g', WS w0 w' wb sb gw g' p [] := by
  subst hn
  refine (write_long h (by simp) a c hr hpl (by simp; omega)).mono ?_
  rintro e w' ⟨rfl, g1, h1⟩
  rw [if_neg hp, if_neg hp] at h1
  exact ⟨rfl, g1, by simpa using h1⟩

theorem cat6n (a1 a2 : Option Addr) (n1 n2 c1 c2 : Nat) (l1 l2 : List Int) (w : World) (e1 : l1.length = n1) (e2 : l2.length = n2) (hl1 : n1 ≤ 524288) (hl2 : n2 ≤ 524288) (h1 : Rd w a1 l1) (h2 : Rd w a2 l2) :
    Calls Try.prog 6 #[.slice a1 n1 c1, .slice a2 n2 c2] w fun e w' => e = .returned (.slice (some ⟨w.heap.size, 0, none⟩) (n1 + n2) (n1 + n2)) ∧ Rd w' (some ⟨w.heap.size, 0, none⟩) (l1 ++ l2) ∧ Below w.heap.size w w' := by
  subst e1 e2
  exact cat6 a1 a2 c1 c2 l1 l2 w hl1 hl2 h1 h2

theorem eq10n (a1 a2 : Option Addr) (n1 n2 c1 c2 : Nat) (l : List Int) (w : World) (e1 : l.length = n1) (e2 : l.length = n2) (hl : n1 ≤ 1048576) (h1 : Rd w a1 l) (h2 : Rd w a2 l) :
    Calls Try.prog 10 #[.slice a1 n1 c1, .slice a2 n2 c2] w fun e w' => e = .returned (.bool true) ∧ ∃ k, w' = w.drewN k := by
  subst e1 e2
  exact eq10 a1 a2 c1 c2 l w hl h1 h2

theorem stream12n (a1 a2 a3 : Option Addr) (m c1 c2 c3 : Nat) (S T L : List Int) (w : World) (hS : S.length ≤ 1048576) (hT : T.length ≤ 512) (h1 : Rd w a1 S) (h2 : Rd w a2 T) (h3 : Rd w a3 L) (hL : S ++ T = L) (hm : L.length = m) :
    Calls Try.prog 12 #[.slice a1 S.length c1, .slice a2 T.length c2, .slice a3 m c3] w fun e w' => e = .returned (.bool true) ∧ ∃ k, w' = w.drewN k := by
  subst hL
  exact stream12 a1 a2 a3 c1 c2 c3 S T w hS hT h1 h2 h3 m (by rw [← hm, List.length_append])

end Go.Proofs.Qxb6613323a.Ws
