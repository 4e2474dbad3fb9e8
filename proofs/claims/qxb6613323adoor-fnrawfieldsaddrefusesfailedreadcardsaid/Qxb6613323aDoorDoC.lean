/-
  bytes.Buffer at this program: Len (41), tryGrowByReslice (39), grow (40): where the buffer's row lies is told.
-/
import Derived.Test.Qxb6613323aDoorDoB
import Derived.Test.Qxb6613323aDoorShelf
import Derived.Deep.RegionWith
import Derived.Lib.SliceRun
namespace Go.Proofs.Qxb6613323aDoor.Do
open Go.ChangeShapes Go.WideShapes Go.ChangeAt Go.RowKit

/-- the struct in block sb: its buffer (buf, off = 0, lastRead), then its fields. -/
def Bf (w : World) (sb : Nat) (v : Value) (lr : Int) (fs : Value) : Prop := w.heap[sb]? = some (.cells #[v, .int .i64 0, .int .i8 lr, fs] 32 (0, 0))

theorem Bf.c0 {w : World} {sb : Nat} {v : Value} {lr : Int} {fs : Value} (h : Bf w sb v lr fs) : w.cell? ⟨sb, 0, none⟩ = some v := by unfold Bf at h; simp [World.cell?, h]
theorem Bf.c1 {w : World} {sb : Nat} {v : Value} {lr : Int} {fs : Value} (h : Bf w sb v lr fs) : w.cell? ⟨sb, 1, none⟩ = some (.int .i64 0) := by unfold Bf at h; simp [World.cell?, h]
theorem Bf.c2 {w : World} {sb : Nat} {v : Value} {lr : Int} {fs : Value} (h : Bf w sb v lr fs) : w.cell? ⟨sb, 2, none⟩ = some (.int .i8 lr) := by unfold Bf at h; simp [World.cell?, h]
theorem Bf.free {w : World} {sb : Nat} {v : Value} {lr : Int} {fs : Value} (h : Bf w sb v lr fs) (o : Nat) : w.frozen? ⟨sb, o, none⟩ = false := by unfold Bf at h; simp [World.frozen?, h]
theorem Bf.lt {w : World} {sb : Nat} {v : Value} {lr : Int} {fs : Value} (h : Bf w sb v lr fs) : sb < w.heap.size := (Array.getElem?_eq_some_iff.1 h).1

theorem set_block {w : World} {b : Nat} {c : Array Value} {t : TypeId} {fr : Nat × Nat} (h : w.heap[b]? = some (.cells c t fr)) (o : Nat) (v : Value) :
    (w.setCell ⟨b, o, none⟩ v).heap[b]? = some (.cells (c.setIfInBounds o v) t fr) := by
  simp [World.setCell, Array.getElem?_modify, h]
theorem Bf.set0 {w : World} {sb : Nat} {v : Value} {lr : Int} {fs : Value} (h : Bf w sb v lr fs) (x : Value) : Bf (w.setCell ⟨sb, 0, none⟩ x) sb x lr fs := by
  unfold Bf; rw [set_block h]; rfl
theorem Bf.set1 {w : World} {sb : Nat} {v : Value} {lr : Int} {fs : Value} (h : Bf w sb v lr fs) : Bf (w.setCell ⟨sb, 1, none⟩ (.int .i64 0)) sb v lr fs := by
  unfold Bf; rw [set_block h]; rfl
theorem Bf.set2 {w : World} {sb : Nat} {v : Value} {lr : Int} {fs : Value} (h : Bf w sb v lr fs) (x : Int) : Bf (w.setCell ⟨sb, 2, none⟩ (.int .i8 x)) sb v x fs := by
  unfold Bf; rw [set_block h]; rfl

/-- 'w'' is 'w' but for block b, whatever 'also' lets, and new blocks. -/
structure Mv (b : Nat) (also : Option Nat) (w w' : World) : Prop where
  os : w'.os = w.os
  tape : w'.tape = w.tape
  output : w'.output = w.output
  size : w.heap.size ≤ w'.heap.size
  block : ∀ k, k < w.heap.size → k ≠ b → some k ≠ also → w'.heap[k]? = w.heap[k]?

theorem Mv.refl (b : Nat) (o : Option Nat) (w : World) : Mv b o w w := ⟨rfl, rfl, rfl, Nat.le_refl _, fun _ _ _ _ => rfl⟩
theorem Mv.trans {b : Nat} {o : Option Nat} {w1 w2 w3 : World} (h : Mv b o w1 w2) (k : Mv b o w2 w3) : Mv b o w1 w3 :=
  ⟨k.os.trans h.os, k.tape.trans h.tape, k.output.trans h.output, Nat.le_trans h.size k.size, fun i hi h1 h2 => (k.block i (Nat.lt_of_lt_of_le hi h.size) h1 h2).trans (h.block i hi h1 h2)⟩
theorem Mv.setCell {b : Nat} {o : Option Nat} {w w' : World} (h : Mv b o w w') (i : Nat) (v : Value) : Mv b o w (w'.setCell ⟨b, i, none⟩ v) :=
  h.trans ⟨rfl, rfl, rfl, by simp [World.setCell], fun k _ hk _ => Below.heap_setCell _ _ _ _ hk⟩
theorem Mv.alloc {b : Nat} {o : Option Nat} {w w' : World} (h : Mv b o w w') (x : Obj) : Mv b o w (w'.alloc x) :=
  h.trans ⟨rfl, rfl, rfl, by simp, fun k hk _ _ => Below.heap_alloc _ _ _ hk⟩
theorem Mv.drewN {b : Nat} {o : Option Nat} {w w' : World} (h : Mv b o w w') (n : Nat) : Mv b o w (w'.drewN n) := ⟨h.os, h.tape, h.output, h.size, h.block⟩
theorem Mv.drew {b : Nat} {o : Option Nat} {w w' : World} (h : Mv b o w w') : Mv b o w w'.drew := ⟨h.os, h.tape, h.output, h.size, h.block⟩
theorem Mv.below {b : Nat} {o : Option Nat} {w w' : World} (h : Below w.heap.size w w') : Mv b o w w' := ⟨h.os, h.tape, h.output, h.size, fun k hk _ _ => h.block k hk⟩
theorem Mv.more {b : Nat} {o : Option Nat} {w w' : World} (h : Mv b none w w') : Mv b o w w' := ⟨h.os, h.tape, h.output, h.size, fun k hk h1 _ => h.block k hk h1 (by simp)⟩

set_option maxHeartbeats 400000 in
theorem len41 (sb : Nat) (ao : Option Addr) (l cap : Nat) (lr : Int) (fs : Value) (w : World) (h : Bf w sb (.slice ao l cap) lr fs) (hl : l ≤ 140737488355328) :
    Calls Tryd.prog 23 #[.pointer (some ⟨sb, 0, none⟩)] w fun e w' => e = .returned (.int .i64 l) ∧ ∃ n, w' = w.drewN n := by
  have c0 := h.c0
  have c1 := h.c1
  clear h
  go_enter Tryd.func23, Tryd.ntmps23
  go_wp2
  go_quiet (fail)
  go_wp2
  go_ret
  exact ⟨rfl, _, rfl⟩

set_option maxHeartbeats 400000 in
theorem try_room (sb : Nat) (ao : Option Addr) (l cap n : Nat) (lr : Int) (fs : Value) (w : World) (h : Bf w sb (.slice ao l cap) lr fs) (hlc : l ≤ cap) (hcap : cap ≤ maxLen) (hn : n ≤ cap - l) :
    Calls Tryd.prog 26 #[.pointer (some ⟨sb, 0, none⟩), .int .i64 n] w fun e w' => e = .returned (.tuple #[.int .i64 l, .bool true]) ∧ w.setCell ⟨sb, 0, none⟩ (.slice ao (l + n) cap) = w' := by
  have c0 := h.c0
  have f0 := h.free 0
  clear h
  unfold maxLen at hcap
  go_enter Tryd.func26, Tryd.ntmps26
  go_wp2
  go_ret2
  exact ⟨rfl, rfl⟩

set_option maxHeartbeats 400000 in
theorem try_none (sb : Nat) (ao : Option Addr) (l cap n : Nat) (lr : Int) (fs : Value) (w : World) (h : Bf w sb (.slice ao l cap) lr fs) (hlc : l ≤ cap) (hcap : cap ≤ maxLen) (hn : cap - l < n) :
    Calls Tryd.prog 26 #[.pointer (some ⟨sb, 0, none⟩), .int .i64 n] w fun e w' => e = .returned (.tuple #[.int .i64 0, .bool false]) ∧ w = w' := by
  have c0 := h.c0
  clear h
  unfold maxLen at hcap
  go_enter Tryd.func26, Tryd.ntmps26
  go_wp2
  go_ret2
  exact ⟨rfl, rfl⟩

end Go.Proofs.Qxb6613323aDoor.Do
