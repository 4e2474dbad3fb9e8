/-
  bytes.Buffer as the first field of RawFields: what it holds ('Sk').
-/
import Derived.Test.Qxb6613323aDoorDoC
import Derived.Lib.BufferSrc
import Derived.Lib.BufferWrite
import Derived.Lib.Strings
import Derived.Lib.IndexBytes
namespace Go.Proofs.Qxb6613323aDoor.Do
open Go.ChangeShapes Go.WideShapes Go.ChangeAt Go.RowKit

/-- bytes as cells. -/
def U (l : List Int) : List Value := l.map (Value.int .u8)
theorem U_length (l : List Int) : (U l).length = l.length := List.length_map _
theorem U_append (l m : List Int) : U (l ++ m) = U l ++ U m := List.map_append
theorem U_one (l : List Int) : ∀ v ∈ U l, v.oneCell' = true := by
  intro v hv
  obtain ⟨z, _, rfl⟩ := List.mem_map.1 hv
  rfl
theorem U_get (l : List Int) (i : Nat) (h : i < l.length) : (U l)[i]? = some (.int .u8 (bt l i)) := by
  simp [U, bt, h]

/-- a string's bytes, as numbers. -/
def bl (s : ByteArray) : List Int := s.data.toList.map fun b => (b.toNat : Int)
theorem bl_length (s : ByteArray) : (bl s).length = s.size := by
  unfold bl
  rw [List.length_map, Array.length_toList]
  rfl
theorem U_bl (s : ByteArray) : U (bl s) = Lib.byteCells s.data.toList := by
  unfold U bl Lib.byteCells
  rw [List.map_map]
  rfl
theorem bt_bl (s : ByteArray) (k : Nat) (h : k < s.size) : bt (bl s) k = (s[k].toNat : Int) := by
  unfold bt bl
  have h2 : k < s.data.toList.length := by rw [Array.length_toList]; exact h
  rw [List.getD_eq_getElem?_getD, List.getElem?_map, List.getElem?_eq_getElem h2]
  rfl

/-- the buffer in block sb holds the bytes S, in the row g (none: nothing was ever written); the fields' slice is fs. -/
def Sk (w : World) (sb : Nat) (S : List Int) (fs : Value) : Option Nat → Prop
  | none => S = [] ∧ ∃ lr, Bf w sb (.slice none 0 0) lr fs
  | some g => ∃ cap cur lr, Bf w sb (.slice (some ⟨g, 0, none⟩) S.length cap) lr fs ∧ w.heap[g]? = some (.cells cur 5 (0, 0)) ∧ cur.size = cap ∧ S.length ≤ cap ∧ cap ≤ maxLen ∧ cur.toList.take S.length = U S ∧ g ≠ sb

theorem size5 : (Tryd.prog.info? 5).map (·.size) = some 1 := by
  obtain ⟨i0, hi, _, hz1, _⟩ := info5_parts
  rw [hi]; simp [hz1]

theorem Mv.setRow {b g : Nat} {o : Option Nat} {w w' : World} (h : Mv b o w w') (hg : w.heap.size ≤ g ∨ o = some g) (cs : Array Value) : Mv b o w (w'.setRow g cs) :=
  ⟨h.os, h.tape, h.output, by simpa [World.setRow] using h.size, fun k hk h1 h2 => (setRow_other w' g k cs (by
    rcases hg with hg | hg
    · omega
    · intro e; subst e; exact h2 hg.symm)).trans (h.block k hk h1 h2)⟩

theorem row_written {cur : Array Value} {cs : List Value} {l n cap : Nat} (hcs : cur.size = cap) (hlc : l ≤ cap) (hl : cs.length = n) (hroom : n ≤ cap - l) :
    (cur.toList.take l ++ cs ++ cur.toList.drop (l + n)).toArray.size = cap ∧ (cur.toList.take l ++ cs ++ cur.toList.drop (l + n)).toArray.toList.take (l + n) = cur.toList.take l ++ cs := by
  have h1 : (cur.toList.take l ++ cs).length = l + n := by
    rw [List.length_append, List.length_take, Array.length_toList, hcs, hl]; omega
  constructor
  · rw [List.size_toArray, List.length_append, h1, List.length_drop, Array.length_toList, hcs]; omega
  · show (cur.toList.take l ++ cs ++ cur.toList.drop (l + n)).take (l + n) = _
    rw [List.take_append_of_le_length (by rw [h1]; exact Nat.le_refl _), List.take_of_length_le (by rw [h1]; exact Nat.le_refl _)]

end Go.Proofs.Qxb6613323aDoor.Do
