/-
  Strings: their bytes as numbers; zzb1StrBytes (15); WriteString (16) where it fits; writeLongString (20).
-/
import Derived.Test.Qxb6613323aWsJ
import Derived.Lib.Strings
import Derived.Lib.IndexBytes
import Derived.Deep.RegionLaw
import Derived.WalkLawsBesides
namespace Go.Proofs.Qxb6613323a.Ws
open Go.ChangeShapes Go.WideShapes Go.ChangeAt Go.RowKit

variable {w0 w w' : World} {wb sb gw : Nat} {g g' : Option Nat} {S T p : List Int}

/-- a string's bytes, as numbers. -/
def bl (s : ByteArray) : List Int := s.data.toList.map fun b => (b.toNat : Int)

theorem bl_length (s : ByteArray) : (bl s).length = s.size := by
  unfold bl
  rw [List.length_map, Array.length_toList]
  rfl
theorem U_bl (s : ByteArray) : U (bl s) = byteCells s := by
  unfold U bl byteCells
  rw [List.map_map]
  rfl
theorem bl_take (s : ByteArray) (k : Nat) : bl (s.extract 0 k) = (bl s).take k := by
  unfold bl
  rw [Lib.extract_data, List.drop_zero, Nat.sub_zero, List.map_take]
theorem bl_drop (s : ByteArray) (k : Nat) : bl (s.extract k s.size) = (bl s).drop k := by
  unfold bl
  rw [Lib.extract_to_end, List.map_drop]
theorem bt_bl (s : ByteArray) (k : Nat) (h : k < s.size) : bt (bl s) k = (s[k].toNat : Int) := by
  unfold bt bl
  have h2 : k < s.data.toList.length := by rw [Array.length_toList]; exact h
  rw [List.getD_eq_getElem?_getD, List.getElem?_map, List.getElem?_eq_getElem h2]
  rfl

theorem strSrc (s : ByteArray) : Src Try.prog 1 9 (.string s) (bl s).length (U (bl s)) w := by
  rw [bl_length, U_bl]
  exact Src.ofString w Try.underlying9 s

set_option maxHeartbeats 1000000 in
theorem strbytes15 (s : ByteArray) (w : World) (hs : s.size ≤ 524288) :
    Calls Try.prog 15 #[.string s] w fun e w' => e = .returned (.slice (some ⟨w.heap.size, 0, none⟩) s.size s.size) ∧ Rd w' (some ⟨w.heap.size, 0, none⟩) (bl s) ∧ Below w.heap.size w w' := by
  obtain ⟨W1, hmk0, hF⟩ := fill_start w (bl s) s.size (by omega)
  have hmk := hmk0 (s.size : Int) rfl
  clear hmk0
  have F0 : Hid _ := hF
  have FIN : Hid (∀ wr, Fill w.heap.size w (bl s) s.size s.size wr → Rd wr (some ⟨w.heap.size, 0, none⟩) (bl s)) := fun wr h => .inr ⟨_, _, rfl, fun i hi => by rw [Nat.zero_add]; exact h.done i (by rw [bl_length] at hi; exact hi)⟩
  have HB : Hid (∀ k (h : k < s.size), bt (bl s) k = (s[k].toNat : Int)) := fun k h => bt_bl s k h
  clear hF
  go_enter Try.func15, Try.ntmps15
  go_wp2
  go_loopw [4] (fun i wr => ∃ k : Nat, k ≤ s.size ∧ i = .int .i64 k ∧ Fill w.heap.size w (bl s) s.size k wr) (fun i _ => s.size - (intOf i).toNat)
  case atStart => exact ⟨0, Nat.zero_le _, rfl, F0.out⟩
  case round =>
    obtain ⟨k, hk, rfl, hF⟩ := hrel
    by_cases hlt : k < s.size
    · obtain ⟨v, hcN⟩ := hF.there k (by omega)
      have hfN := hF.free k
      have HS : Hid _ := hF.set (by omega)
      rw [HB.out k hlt] at HS
      clear hF
      go_wp2_with fail
      go_roundw
      case rel => exact ⟨k + 1, by omega, by go_num, HS.out⟩
      case measure => simp [intOf]; omega
    · obtain rfl : k = s.size := by omega
      have HF : Hid _ := hF
      clear hF
      go_wp2_with fail
      go_ret
      exact ⟨rfl, FIN.out _ HF.out, HF.out.below⟩

set_option maxHeartbeats 1000000 in
theorem str_fits (h : WS w0 w wb sb gw g S T) (s : ByteArray) (hfit : T.length + s.size ≤ 512) :
    Calls Try.prog 16 #[.pointer (some ⟨wb, 0, none⟩), .string s] w fun e w' => e = .returned (.tuple #[]) ∧ WS w0 w' wb sb gw g S (T ++ bl s) := by
  have c1 := h.c1
  have H : Hid (WS w0 w wb sb gw g S T) := h
  clear h
  go_enter Try.func16, Try.ntmps16
  go_wp2_with fail
  go_quiet (fail)
  obtain ⟨W2, hap, J, hrow⟩ := (H.out.drewN nq).append (p := bl s) 9 (.string s) (strSrc s) (by rw [bl_length]; exact hfit)
  rw [bl_length] at hap
  have JJ : Hid (WS w0 W2 wb sb gw g S T) := J
  have HW : Hid _ := hrow
  have d1 := J.c1
  have e1 := J.free 1
  have HA : Hid _ := hap 22
  clear J hrow hap
  go_wp2_with (at_builtin; refine Lib.wpList_append_run _ rfl _ _ _ _ rfl _ _ rfl rfl _ _ HA.out ?_)
  go_end0
  have fin := JJ.out.sliced (T2 := T ++ bl s) (by rw [List.length_append, bl_length]; exact hfit) HW.out
  rw [List.length_append, bl_length] at fin
  exact ⟨rfl, fin⟩

/-- an append whose run is known, as one step of a region that draws its order. -/
theorem step_append_run {P : Program} {ops : Array Oper} {o : Oper} {a : Act} {w : World} {K : Act → World → Prop} {Q : Exit → Act → World → Prop} {E : Prop}
    (hg : o.guard = none) (s x : Operand) (t tn : TypeId) (hop : o.op = Op.call { callee := Callee.builtin Builtin.append, args := #[s, x], argTypes := #[t, tn] })
    (vs vx : Value) (hs : a.eval s = vs) (hx : a.eval x = vx) (v' : Value) (w' : World) (hr : (Builtin.append_ #[t, tn] o.type #[vs, vx]).run P w = .ok v' w') (hK : K (a.put o.dst v') w') :
    if Region.wanted o (yielded ops a.tmps) = true then Oper.wp P o a w K Q else E := by
  have hw : Region.wanted o (yielded ops a.tmps) = true := by simp [Region.wanted, hg]
  rw [if_pos hw]
  exact Lib.wp_append_run w s x t tn hop vs vx hs hx v' w' hr hK

end Go.Proofs.Qxb6613323a.Ws
