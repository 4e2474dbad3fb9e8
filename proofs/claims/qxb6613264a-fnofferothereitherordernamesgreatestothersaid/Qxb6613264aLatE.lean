/-
  What stands in memory while the law runs ('Inv'), and what ZZofferOther (8) does to it.
-/
import Derived.Test.Qxb6613264aLatPlain
namespace Go.Proofs.Qxb6613264a.Lat
open Go.ChangeShapes Go.WideShapes Go.ChangeAt Go.RowKit

def MS (w : World) (m : Nat) (b : Int) (l : Nat) : Option (Int × Int) → Prop
  | none => w.heap[m]? = some (.map #[] 0)
  | some p => w.heap[m]? = some (.map #[⟨.int .i64 b, .pointer (some ⟨l, 0, none⟩), 0⟩] 1) ∧ Lt w l p.1 p.2

/-- two maps m1, m2 with at most the entry at b; two latests fb, gb that are offered; no two of them share a block; all of them new. -/
structure Inv (w0 w : World) (b : Int) (m1 m2 fb gb l1 l2 : Nat) (s1 s2 : Option (Int × Int)) (f0 f1 g0 g1 : Int) : Prop where
  below : Below w0.heap.size w0 w
  st1 : MS w m1 b l1 s1
  st2 : MS w m2 b l2 s2
  lf : Lt w fb f0 f1
  lg : Lt w gb g0 g1
  n1 : w0.heap.size ≤ m1
  n2 : w0.heap.size ≤ m2
  ne : m1 ≠ m2
  d1 : s1 ≠ none → w0.heap.size ≤ l1 ∧ l1 ≠ fb ∧ l1 ≠ gb
  d2 : s2 ≠ none → w0.heap.size ≤ l2 ∧ l2 ≠ fb ∧ l2 ≠ gb
  d12 : s1 ≠ none → s2 ≠ none → l1 ≠ l2

theorem Lt.lt {w : World} {b : Nat} {p0 p1 : Int} (h : Lt w b p0 p1) : b < w.heap.size := (Array.getElem?_eq_some_iff.1 h).1
theorem MS.lt {w : World} {m l : Nat} {b : Int} {s : Option (Int × Int)} (h : MS w m b l s) : m < w.heap.size := by
  cases s with
  | none => exact (Array.getElem?_eq_some_iff.1 h).1
  | some p => exact (Array.getElem?_eq_some_iff.1 h.1).1
theorem MS.apart {w : World} {m l fb : Nat} {b f0 f1 : Int} {s : Option (Int × Int)} (h : MS w m b l s) (hf : Lt w fb f0 f1) : m ≠ fb := by
  intro e
  subst e
  unfold Lt at hf
  cases s with
  | none => rw [show w.heap[m]? = _ from h] at hf; cases hf
  | some p => rw [h.1] at hf; cases hf
theorem Lt.of_block {w w' : World} {b : Nat} {p0 p1 : Int} (h : Lt w b p0 p1) (e : w'.heap[b]? = w.heap[b]?) : Lt w' b p0 p1 := e.trans h
theorem MS.of_block {w w' : World} {m l : Nat} {b : Int} {s : Option (Int × Int)} (h : MS w m b l s) (e : w'.heap[m]? = w.heap[m]?) (e2 : s ≠ none → w'.heap[l]? = w.heap[l]?) : MS w' m b l s := by
  cases s with
  | none => exact e.trans h
  | some p => exact ⟨e.trans h.1, (e2 (by simp)).trans h.2⟩

theorem Inv.swap {w0 w : World} {b : Int} {m1 m2 fb gb l1 l2 : Nat} {s1 s2 : Option (Int × Int)} {f0 f1 g0 g1 : Int} (h : Inv w0 w b m1 m2 fb gb l1 l2 s1 s2 f0 f1 g0 g1) :
    Inv w0 w b m2 m1 fb gb l2 l1 s2 s1 f0 f1 g0 g1 :=
  ⟨h.below, h.st2, h.st1, h.lf, h.lg, h.n2, h.n1, h.ne.symm, h.d2, h.d1, fun a b => (h.d12 b a).symm⟩
theorem Inv.flip {w0 w : World} {b : Int} {m1 m2 fb gb l1 l2 : Nat} {s1 s2 : Option (Int × Int)} {f0 f1 g0 g1 : Int} (h : Inv w0 w b m1 m2 fb gb l1 l2 s1 s2 f0 f1 g0 g1) :
    Inv w0 w b m1 m2 gb fb l1 l2 s1 s2 g0 g1 f0 f1 :=
  ⟨h.below, h.st1, h.st2, h.lg, h.lf, h.n1, h.n2, h.ne, fun a => ⟨(h.d1 a).1, (h.d1 a).2.2, (h.d1 a).2.1⟩, fun a => ⟨(h.d2 a).1, (h.d2 a).2.2, (h.d2 a).2.1⟩, h.d12⟩

theorem Inv.alloc {w0 w : World} {b : Int} {m1 m2 fb gb l1 l2 : Nat} {s1 s2 : Option (Int × Int)} {f0 f1 g0 g1 : Int} (h : Inv w0 w b m1 m2 fb gb l1 l2 s1 s2 f0 f1 g0 g1) (o : Obj) :
    Inv w0 (w.alloc o) b m1 m2 fb gb l1 l2 s1 s2 f0 f1 g0 g1 := by
  have ll1 : s1 ≠ none → l1 < w.heap.size := by
    intro hs
    cases s1 with
    | none => exact absurd rfl hs
    | some p => exact h.st1.2.lt
  have ll2 : s2 ≠ none → l2 < w.heap.size := by
    intro hs
    cases s2 with
    | none => exact absurd rfl hs
    | some p => exact h.st2.2.lt
  exact ⟨h.below.alloc h.below.size o, h.st1.of_block (Below.heap_alloc _ _ _ h.st1.lt) (fun hs => Below.heap_alloc _ _ _ (ll1 hs)), h.st2.of_block (Below.heap_alloc _ _ _ h.st2.lt) (fun hs => Below.heap_alloc _ _ _ (ll2 hs)),
    h.lf.of_block (Below.heap_alloc _ _ _ h.lf.lt), h.lg.of_block (Below.heap_alloc _ _ _ h.lg.lt), h.n1, h.n2, h.ne, h.d1, h.d2, h.d12⟩

theorem Inv.drewN {w0 w : World} {b : Int} {m1 m2 fb gb l1 l2 : Nat} {s1 s2 : Option (Int × Int)} {f0 f1 g0 g1 : Int} (h : Inv w0 w b m1 m2 fb gb l1 l2 s1 s2 f0 f1 g0 g1) (n : Nat) :
    Inv w0 (w.drewN n) b m1 m2 fb gb l1 l2 s1 s2 f0 f1 g0 g1 :=
  ⟨h.below.trans ⟨rfl, rfl, rfl, Nat.le_refl _, fun _ _ => rfl⟩, h.st1.of_block rfl (fun _ => rfl), h.st2.of_block rfl (fun _ => rfl), h.lf, h.lg, h.n1, h.n2, h.ne, h.d1, h.d2, h.d12⟩

/-- what an offer to m1 leaves. -/
def After (w0 : World) (b : Int) (m1 m2 fb gb : Nat) (s1 s2 : Option (Int × Int)) (f0 f1 g0 g1 : Int) (w' : World) : Prop :=
  ∃ l1 l2, Inv w0 w' b m1 m2 fb gb l1 l2 s1 s2 f0 f1 g0 g1

theorem zoo8 (b : Int) (m fb : Nat) (w : World) (R : World → Prop)
    (h : Calls Try.prog 15 #[.map (some m), .int .i64 b, .pointer (some ⟨fb, 0, none⟩), .func (.func 16) #[] #[]] w fun e w' => e = .returned (.tuple #[]) ∧ R w') :
    Calls Try.prog 8 #[.map (some m), .int .i64 b, .pointer (some ⟨fb, 0, none⟩)] w fun e w' => e = .returned (.tuple #[]) ∧ R w' := by
  have H : Hid _ := h
  clear h
  go_enter Try.func8, Try.ntmps8
  go_wp2_with fail
  refine Calls.mono H.out ?_
  rintro e w' ⟨rfl, hr⟩
  go_wp2_with fail
  go_end0
  exact ⟨rfl, hr⟩

theorem step1 {w0 w : World} {b : Int} {m1 m2 fb gb l1 l2 : Nat} {s1 s2 : Option (Int × Int)} {f0 f1 g0 g1 : Int} (h : Inv w0 w b m1 m2 fb gb l1 l2 s1 s2 f0 f1 g0 g1) :
    Calls Try.prog 8 #[.map (some m1), .int .i64 b, .pointer (some ⟨fb, 0, none⟩)] w fun e w' => e = .returned (.tuple #[]) ∧ After w0 b m1 m2 fb gb (nx s1 (oth f0 f1 b)) s2 f0 f1 g0 g1 w' := by
  have ll2 : s2 ≠ none → l2 < w.heap.size := by
    intro hs
    cases s2 with
    | none => exact absurd rfl hs
    | some p => exact h.st2.2.lt
  have am2 : s2 ≠ none → m1 ≠ l2 := by
    intro hs
    cases s2 with
    | none => exact absurd rfl hs
    | some p => exact h.st1.apart h.st2.2
  apply zoo8
  by_cases ha : oth f0 f1 b = 0
  · refine (oo_zero m1 fb b f0 f1 _ w h.lf ha).mono ?_
    rintro e w' ⟨rfl, rfl⟩
    refine ⟨rfl, l1, l2, ?_⟩
    rw [ha, show nx s1 0 = s1 from if_pos rfl]
    exact h
  · cases s1 with
    | none =>
      refine (oo_none m1 fb b f0 f1 _ w h.lf rfl (by simpa using ha) h.st1).mono ?_
      rintro e w' ⟨rfl, hm, hl, hM⟩
      refine ⟨rfl, w.heap.size, l2, ?_⟩
      have e1 : nx none (oth f0 f1 b) = some (ofr 0 0 (oth f0 f1 b)) := if_neg ha
      rw [e1]
      have bl : Below w0.heap.size w0 w' := h.below.trans ⟨hM.os, hM.tape, hM.output, hM.size, fun k hk => hM.block k (Nat.lt_of_lt_of_le hk h.below.size) (by have := h.n1; omega)⟩
      refine ⟨bl, ⟨hm, hl⟩, h.st2.of_block (hM.block _ h.st2.lt h.ne.symm) (fun hs => hM.block _ (ll2 hs) (am2 hs).symm), h.lf.of_block (hM.block _ h.lf.lt (h.st1.apart h.lf).symm), h.lg.of_block (hM.block _ h.lg.lt (h.st1.apart h.lg).symm), h.n1, h.n2, h.ne, ?_, h.d2, ?_⟩
      · intro _
        have a1 := h.lf.lt
        have a2 := h.lg.lt
        have a3 := h.below.size
        exact ⟨a3, by omega, by omega⟩
      · intro _ hs
        have := ll2 hs
        omega
    | some p =>
      obtain ⟨p0, p1⟩ := p
      refine (oo_one m1 fb l1 b f0 f1 _ p0 p1 w h.lf rfl (by simpa using ha) h.st1.1 h.st1.2).mono ?_
      rintro e w' ⟨rfl, hl, hM⟩
      refine ⟨rfl, l1, l2, ?_⟩
      have e1 : nx (some (p0, p1)) (oth f0 f1 b) = some (ofr p0 p1 (oth f0 f1 b)) := if_neg ha
      rw [e1]
      have dd := h.d1 (by simp)
      have bl : Below w0.heap.size w0 w' := h.below.trans ⟨hM.os, hM.tape, hM.output, by rw [hM.size]; exact Nat.le_refl _, fun k hk => hM.block k (by omega)⟩
      exact ⟨bl, ⟨(hM.block _ (h.st1.apart h.st1.2)).trans h.st1.1, hl⟩, h.st2.of_block (hM.block _ (h.st2.apart h.st1.2)) (fun hs => hM.block _ (h.d12 (by simp) hs).symm), h.lf.of_block (hM.block _ dd.2.1.symm), h.lg.of_block (hM.block _ dd.2.2.symm), h.n1, h.n2, h.ne,
        fun _ => dd, h.d2, fun _ hs => h.d12 (by simp) hs⟩

theorem step1g {w0 w : World} {b : Int} {m1 m2 fb gb l1 l2 : Nat} {s1 s2 : Option (Int × Int)} {f0 f1 g0 g1 : Int} (h : Inv w0 w b m1 m2 fb gb l1 l2 s1 s2 f0 f1 g0 g1) :
    Calls Try.prog 8 #[.map (some m1), .int .i64 b, .pointer (some ⟨gb, 0, none⟩)] w fun e w' => e = .returned (.tuple #[]) ∧ After w0 b m1 m2 fb gb (nx s1 (oth g0 g1 b)) s2 f0 f1 g0 g1 w' :=
  (step1 h.flip).mono fun _ _ ⟨h1, l1, l2, h2⟩ => ⟨h1, l1, l2, h2.flip⟩
theorem step2 {w0 w : World} {b : Int} {m1 m2 fb gb l1 l2 : Nat} {s1 s2 : Option (Int × Int)} {f0 f1 g0 g1 : Int} (h : Inv w0 w b m1 m2 fb gb l1 l2 s1 s2 f0 f1 g0 g1) :
    Calls Try.prog 8 #[.map (some m2), .int .i64 b, .pointer (some ⟨fb, 0, none⟩)] w fun e w' => e = .returned (.tuple #[]) ∧ After w0 b m1 m2 fb gb s1 (nx s2 (oth f0 f1 b)) f0 f1 g0 g1 w' :=
  (step1 h.swap).mono fun _ _ ⟨h1, l1, l2, h2⟩ => ⟨h1, l2, l1, h2.swap⟩
theorem step2g {w0 w : World} {b : Int} {m1 m2 fb gb l1 l2 : Nat} {s1 s2 : Option (Int × Int)} {f0 f1 g0 g1 : Int} (h : Inv w0 w b m1 m2 fb gb l1 l2 s1 s2 f0 f1 g0 g1) :
    Calls Try.prog 8 #[.map (some m2), .int .i64 b, .pointer (some ⟨gb, 0, none⟩)] w fun e w' => e = .returned (.tuple #[]) ∧ After w0 b m1 m2 fb gb s1 (nx s2 (oth g0 g1 b)) f0 f1 g0 g1 w' :=
  (step1 h.swap.flip).mono fun _ _ ⟨h1, l1, l2, h2⟩ => ⟨h1, l2, l1, h2.flip.swap⟩

end Go.Proofs.Qxb6613264a.Lat
