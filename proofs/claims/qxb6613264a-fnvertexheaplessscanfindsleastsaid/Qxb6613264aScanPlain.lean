/-
  Plain mathematics of the scan: the place of the first least number among the first k.
-/
namespace Go.Proofs.Qxb6613264a.Heap

def fz (zs : List Int) (i : Nat) : Int := zs.getD i 0

def am (zs : List Int) : Nat → Nat
  | 0 => 0
  | k + 1 => if fz zs k < fz zs (am zs k) then k else am zs k

theorem am_lt {zs : List Int} {k : Nat} (h : fz zs k < fz zs (am zs k)) : am zs (k + 1) = k := by
  show (if _ then _ else _) = _
  rw [if_pos h]

theorem am_ge {zs : List Int} {k : Nat} (h : ¬ fz zs k < fz zs (am zs k)) : am zs (k + 1) = am zs k := by
  show (if _ then _ else _) = _
  rw [if_neg h]

theorem am_one (zs : List Int) : am zs 1 = 0 := by
  apply am_ge
  show ¬ fz zs 0 < fz zs 0
  omega

theorem am_bound (zs : List Int) : ∀ k, 1 ≤ k → am zs k < k
  | 0, h => by omega
  | 1, _ => by rw [am_one]; omega
  | k + 2, _ => by
    have ih := am_bound zs (k + 1) (by omega)
    by_cases h : fz zs (k + 1) < fz zs (am zs (k + 1))
    · rw [am_lt h]; omega
    · rw [am_ge h]; omega

theorem am_least (zs : List Int) : ∀ k i, i < k → fz zs (am zs k) ≤ fz zs i
  | 0, i, h => by omega
  | k + 1, i, h => by
    have ih := am_least zs k
    by_cases h2 : fz zs k < fz zs (am zs k)
    · rw [am_lt h2]
      by_cases e : i = k
      · subst e; omega
      · have := ih i (by omega); omega
    · rw [am_ge h2]
      by_cases e : i = k
      · subst e; omega
      · exact ih i (by omega)

theorem am_first (zs : List Int) : ∀ k i, i < am zs k → fz zs (am zs k) < fz zs i
  | 0, i, h => by simp [am] at h
  | k + 1, i, h => by
    by_cases h2 : fz zs k < fz zs (am zs k)
    · rw [am_lt h2] at h ⊢
      have := am_least zs k i h
      omega
    · rw [am_ge h2] at h ⊢
      exact am_first zs k i h

end Go.Proofs.Qxb6613264a.Heap
