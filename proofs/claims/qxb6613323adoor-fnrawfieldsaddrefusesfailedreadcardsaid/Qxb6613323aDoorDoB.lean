/-
  The contract of zzb1Cat (6).
-/
import Derived.Test.Qxb6613323aDoorDoA
namespace Go.Proofs.Qxb6613323aDoor.Do
open Go.ChangeShapes Go.WideShapes Go.ChangeAt Go.RowKit

theorem info5 : (Tryd.prog.info? 5).map (fun i => (i.zero, i.size, i.bytes)) = some (some (.int .u8 0), 1, 1) := by kernel_rfl

theorem info5_parts : ∃ i0, Tryd.prog.info? 5 = some i0 ∧ i0.zero = some (.int .u8 0) ∧ i0.size = 1 ∧ i0.bytes = 1 := by
  have h3 := info5
  cases hi : Tryd.prog.info? 5 with
  | none => rw [hi] at h3; cases h3
  | some i0 =>
    rw [hi] at h3
    simp only [Option.map_some, Option.some.injEq, Prod.mk.injEq] at h3
    exact ⟨i0, rfl, h3.1, h3.2.1, h3.2.2⟩

/-- block N is a new row of n cells, the first k of which hold L's first k bytes. -/
structure Fill (N : Nat) (w : World) (L : List Int) (n k : Nat) (wr : World) : Prop where
  done : ∀ i, i < k → wr.cell? ⟨N, i, none⟩ = some (.int .u8 (bt L i))
  there : ∀ i, i < n → ∃ v, wr.cell? ⟨N, i, none⟩ = some v
  free : ∀ i, wr.frozen? ⟨N, i, none⟩ = false
  below : Below N w wr

theorem Fill.set {N : Nat} {w wr : World} {L : List Int} {n k : Nat} (h : Fill N w L n k wr) (hk : k < n) : Fill N w L n (k + 1) (wr.setCell ⟨N, k, none⟩ (.int .u8 (bt L k))) := by
  obtain ⟨v, hv⟩ := h.there k hk
  refine ⟨fun i hi => ?_, fun i hi => ?_, fun i => ?_, h.below.setCell (Nat.le_refl _) _⟩
  · by_cases e : i = k
    · subst e
      exact World.cell?_setCell_same _ _ _ hv
    · rw [World.cell?_setCell_other _ _ _ _ (by intro h2; cases h2; exact e rfl)]
      exact h.done i (by omega)
  · exact cell?_setCell_some (h.there i hi).choose_spec
  · rw [World.frozen?_setCell]
    exact h.free i

theorem fill_start (w : World) (L : List Int) (n : Nat) (h : n ≤ 1048576) :
    ∃ W1, (∀ m : Int, m = (n : Int) → (Instr.makeSlice 22 (.int .i64 m) (.int .i64 m)).run Tryd.prog w = .ok (.slice (some ⟨w.heap.size, 0, none⟩) n n) W1) ∧ Fill w.heap.size w L n 0 W1 := by
  obtain ⟨i0, hi, hz, hsz, hby⟩ := info5_parts
  have hr := run_make (P := Tryd.prog) w 22 5 i0 _ Tryd.underlying22 hi hz .i64 .i64 (n : Int) (n : Int) (by omega) (Int.le_refl _) (by rw [hby]; omega) (by omega)
  simp only [Int.toNat_natCast, hsz, Nat.mul_one] at hr
  have hg : (w.alloc (.cells (madeCells (Value.int IntKind.u8 0).cells n) 5)).heap[w.heap.size]? = some (.cells (madeCells (Value.int IntKind.u8 0).cells n) 5 (0, 0)) := by
    show (w.heap.push _)[w.heap.size]? = _
    simp
  refine ⟨_, fun m hm => by rw [hm]; exact hr, fun i hi => absurd hi (Nat.not_lt_zero _), fun i hi => ?_, fun i => ?_, (Below.refl _ _).alloc (Nat.le_refl _) _⟩
  · refine ⟨(madeCells (Value.int IntKind.u8 0).cells n)[i]'(by rw [size_madeCells]; exact hi), ?_⟩
    rw [World.cell?, hg]
    simp [size_madeCells, hi]
  · rw [World.frozen?, hg]
    simp

set_option maxHeartbeats 1000000 in
theorem cat6 (a1 a2 : Option Addr) (c1 c2 : Nat) (l1 l2 : List Int) (w : World) (hl1 : l1.length ≤ 524288) (hl2 : l2.length ≤ 524288) (h1 : Rd w a1 l1) (h2 : Rd w a2 l2) :
    Calls Tryd.prog 6 #[.slice a1 l1.length c1, .slice a2 l2.length c2] w fun e w' =>
      e = .returned (.slice (some ⟨w.heap.size, 0, none⟩) (l1.length + l2.length) (l1.length + l2.length)) ∧ Rd w' (some ⟨w.heap.size, 0, none⟩) (l1 ++ l2) ∧ Below w.heap.size w w' := by
  obtain ⟨W1, hmk0, hF⟩ := fill_start w (l1 ++ l2) (l1.length + l2.length) (by omega)
  have hmk := hmk0 ((l1.length : Int) + (l2.length : Int)) (by omega)
  clear hmk0
  have F0 : Hid _ := hF
  have B1 : Hid (∀ b o, a1 = some ⟨b, o, none⟩ → l1 ≠ [] → b < w.heap.size) := fun b o e hl => by subst e; exact h1.lt hl
  have B2 : Hid (∀ b o, a2 = some ⟨b, o, none⟩ → l2 ≠ [] → b < w.heap.size) := fun b o e hl => by subst e; exact h2.lt hl
  have H1 : Hid (Rd w a1 l1) := h1
  have H2 : Hid (Rd w a2 l2) := h2
  have AL : Hid (∀ i, i < l1.length → bt (l1 ++ l2) i = bt l1 i) := fun i h => bt_append_left h
  have AR : Hid (∀ i, bt (l1 ++ l2) (l1.length + i) = bt l2 i) := fun i => bt_append_right l1 l2 i
  have FIN : Hid (∀ wr, Fill w.heap.size w (l1 ++ l2) (l1.length + l2.length) (l1.length + l2.length) wr → Rd wr (some ⟨w.heap.size, 0, none⟩) (l1 ++ l2)) := fun wr h => .inr ⟨_, _, rfl, fun i hi => by rw [Nat.zero_add]; exact h.done i (by simpa using hi)⟩
  clear hF h1 h2
  generalize hn1 : l1.length = n1 at *
  generalize hn2 : l2.length = n2 at *
  have HN1 : Hid (l1.length = n1) := hn1
  have HN2 : Hid (l2.length = n2) := hn2
  clear hn1 hn2
  go_enter Tryd.func6, Tryd.ntmps6
  go_wp2
  go_loopw [6] (fun i wr => ∃ k : Nat, k ≤ n1 ∧ i = .int .i64 k ∧ Fill w.heap.size w (l1 ++ l2) (n1 + n2) k wr) (fun i _ => n1 - (intOf i).toNat)
  case atStart => exact ⟨0, Nat.zero_le _, rfl, F0.out⟩
  case round =>
    obtain ⟨k, hk, rfl, hF⟩ := hrel
    by_cases hlt : (k : Int) < (n1 : Int)
    · have R1 := H1.out.of_below hF.below B1.out
      obtain ⟨b1, o1, e1, hc1⟩ := R1.at HN1.out (k := k) (by omega)
      obtain ⟨v, hcN⟩ := hF.there k (by omega)
      have hfN := hF.free k
      have HS : Hid _ := hF.set (by omega)
      rw [AL.out k (by omega)] at HS
      rw [e1]
      clear e1 hF R1
      have hlt3 : (k : Int) < (n1 : Int) + (n2 : Int) := by omega
      go_wp2_with fail
      go_roundw
      case rel => exact ⟨k + 1, by omega, by go_num, HS.out⟩
      case measure => simp [intOf]; omega
    · obtain rfl : k = n1 := by omega
      have HF : Hid _ := hF
      clear hF
      go_wp2_with fail
      go_loopw [7] (fun i wr => ∃ j : Nat, j ≤ n2 ∧ i = .int .i64 j ∧ Fill w.heap.size w (l1 ++ l2) (k + n2) (k + j) wr) (fun i _ => n2 - (intOf i).toNat)
      case atStart => exact ⟨0, Nat.zero_le _, rfl, HF.out⟩
      case round =>
        obtain ⟨j, hj, rfl, hF⟩ := hrel
        by_cases hjt : (j : Int) < (n2 : Int)
        · have R2 := H2.out.of_below hF.below B2.out
          obtain ⟨b2, o2, e2, hc2⟩ := R2.at HN2.out (k := j) (by omega)
          obtain ⟨v, hcN⟩ := hF.there (k + j) (by omega)
          have hfN := hF.free (k + j)
          have HS : Hid _ := hF.set (by omega)
          rw [AR.out j] at HS
          rw [e2]
          clear e2 hF R2
          have hlt3 : (k : Int) + (j : Int) < (k : Int) + (n2 : Int) := by omega
          have htn : ((k : Int) + (j : Int)).toNat = k + j := by omega
          go_wp2_with fail
          go_roundw
          case rel => exact ⟨j + 1, by omega, by go_num, HS.out⟩
          case measure => simp [intOf]; omega
        · obtain rfl : j = n2 := by omega
          have HF2 : Hid _ := hF
          clear hF
          go_wp2_with fail
          go_ret
          exact ⟨rfl, FIN.out _ HF2.out, HF2.out.below⟩

end Go.Proofs.Qxb6613323aDoor.Do
