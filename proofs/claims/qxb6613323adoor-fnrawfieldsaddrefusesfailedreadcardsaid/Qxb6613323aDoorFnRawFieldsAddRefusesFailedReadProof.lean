/-
  'Rows.FnRawFieldsAddRefusesFailedReadCardSaid', proved: the row, then the tied card. The walk: Qxb6613323aDoorDoA .. EaK.
-/
import Derived.Test.Qxb6613323aDoorRows
import Derived.Test.Qxb6613323aDoorTie
import Derived.Test.Qxb6613323aDoorCards
import Derived.Test.Qxb6613323aDoorEaD
import Derived.Test.Qxb6613323aDoorEaE
import Derived.Test.Qxb6613323aDoorEaF
import Derived.Test.Qxb6613323aDoorEaG
import Derived.Test.Qxb6613323aDoorEaH
import Derived.Test.Qxb6613323aDoorEaI
import Derived.Test.Qxb6613323aDoorEaJ
import Derived.Test.Qxb6613323aDoorEaK
import Derived.WalkKit
import Derived.ProofKit
import Derived.OpenShut
import Derived.ShutString
import Derived.ChangeOld
import Derived.Below
import Derived.LaidLaws
import Derived.LaidEql
import Derived.Stop.LaidErr
import Derived.Stop.ErrReads
import Derived.Stop.Joined
import Derived.SevenTiedAt
namespace Go.Proofs.Qxb6613323aDoor.fnRawFieldsAddRefusesFailedRead
open Go.ChangeShapes Go.WideShapes Go.ChangeAt Go.RowKit
open Go.ChangeMaps (open_string shut_string)
set_option linter.unusedVariables false

theorem own : ownKnob Tryd.prog.godebug = none := by kernel_rfl
theorem laidOut : laidOutB Tryd.prog = true := by kernel_rfl
theorem eof : Tryd.prog.globalNamed "io.EOF" = some 1 := by kernel_rfl
theorem eofType : (Tryd.prog.globals[1]?).map (·.type) = some 34 := by kernel_rfl
theorem cells75 : Tryd.prog.cellsOf 75 = 1 := by kernel_rfl
theorem cells9 : Tryd.prog.cellsOf 9 = 1 := by kernel_rfl
theorem star : "*" ++ "errors.errorString" = "*errors.errorString" := by decide
theorem row73 (u : TypeId) (h : Tryd.prog.typeName? 3 u = some "*errors.errorString") : u = 73 :=
  typeName_ptr_named (nm := "errors.errorString") (by rw [star]; kernel_rfl) (by kernel_rfl) (by decide) u (by rw [star]; exact h)

/-- what the listed variables give the walk: io.EOF's one cell, and that the block it leads to is a plain one. -/
theorem eof_of_laid {W : World} (h : laidMetH Tryd.prog Rows.fnRawFieldsAddRefusesFailedReadRow.laid W) : ∃ (a : Addr) (ca : Array Value) (ta : TypeId), W.cell? ⟨1, 0, none⟩ = some (.iface 73 (.pointer (some a))) ∧ W.heap[a.block]? = some (.cells ca ta (0, 0)) := by
  have h' : laidMet Tryd.prog (("io.EOF", .iface "*errors.errorString" (.ptr (.agg [.lit (.string [69, 79, 70])]))) :: [("bytes.ErrTooLarge", Rows.laid_bytes_ErrTooLarge), ("bytes.errNegativeRead", Rows.laid_bytes_errNegativeRead)]) W := h
  obtain ⟨ps, ⟨g0, t0, cs0, f0, p0, q0, hg0, ht0, hv0, hd0, _, e0⟩, _, hrows⟩ := h'
  obtain rfl := Option.some.inj (eof.symm.trans hg0)
  obtain rfl := Option.some.inj (eofType.symm.trans ht0)
  subst e0
  obtain ⟨l0⟩ := cs0
  have ok0 : ∀ u v, l0 = [.iface u v] → Value.okWide Tryd.prog W .any 0 u v := fun u v e => by
    subst e
    exact (hrows 1 0 (by simp [MemPlace.row])).2 u v (by simpa using World.var?_cell eof hv0 0)
  obtain ⟨a0, s0, rfl, hc0, hs0, hz0, rfl⟩ := errorString_of_trod Tryd.underlying34 row73 Tryd.underlying73 Tryd.underlying75 rfl rfl Tryd.underlying9 cells75 cells9 hd0 ok0
  obtain ⟨c0, t0, hb0⟩ := (hrows a0.block a0.off (by simp [MemPlace.row])).1
  exact ⟨a0, c0, t0, by simpa using World.var?_cell eof hv0 0, hb0⟩

theorem eql_same (a : Addr) (W : World) : (binOp .eql 34 (.iface 73 (.pointer (some a))) (.iface 73 (.pointer (some a)))).run Tryd.prog W = .ok (.bool true) W := by
  have h1 : (Tryd.prog.info? 73).map (·.comparable) = some true := by kernel_rfl
  have h2 : (Tryd.prog.info? 75).isSome = true := by kernel_rfl
  cases hi : Tryd.prog.info? 73 with
  | none => rw [hi] at h1; cases h1
  | some i =>
    rw [hi] at h1
    cases hj : Tryd.prog.info? 75 with
    | none => rw [hj] at h2; cases h2
    | some j => exact run_eql_iface_ptr_same W a Tryd.underlying34 Tryd.underlying73 hi (by simpa using h1) hj
theorem eql_nil (a : Addr) (W : World) : (binOp .eql 34 .nilIface (.iface 73 (.pointer (some a)))).run Tryd.prog W = .ok (.bool false) W :=
  run_eql_iface_nil_left W 73 _ Tryd.underlying34

/-! ### a world that meets the condition -/
abbrev eofS : ByteArray := { data := #[69, 79, 70] }
abbrev largeS : ByteArray := { data := #[98, 121, 116, 101, 115, 46, 66, 117, 102, 102, 101, 114, 58, 32, 116, 111, 111, 32, 108, 97, 114, 103, 101] }
abbrev negS : ByteArray := { data := #[98, 121, 116, 101, 115, 46, 66, 117, 102, 102, 101, 114, 58, 32, 114, 101, 97, 100, 101, 114, 32, 114, 101, 116, 117, 114, 110, 101, 100, 32, 110, 101, 103, 97, 116, 105, 118, 101, 32, 99, 111, 117, 110, 116, 32, 102, 114, 111, 109, 32, 82, 101, 97, 100] }
noncomputable def low : Nat := (World.holding Tryd.prog default ⟨#[], #[], []⟩).heap.size
noncomputable def laidWorld (os : Os) : World :=
  let w0 := World.holding Tryd.prog os ⟨#[.cells #[.string eofS] 75, .cells #[.string largeS] 75, .cells #[.string negS] 75], #[], []⟩
  { w0 with heap := ((w0.heap.modify 1 fun
      | .cells _ t frozen => .cells #[.iface 73 (.pointer (some ⟨low, 0, none⟩))] t frozen
      | o => o).modify 2 fun
      | .cells _ t frozen => .cells #[.iface 73 (.pointer (some ⟨low + 1, 0, none⟩))] t frozen
      | o => o).modify 0 fun
      | .cells _ t frozen => .cells #[.iface 73 (.pointer (some ⟨low + 2, 0, none⟩))] t frozen
      | o => o }
theorem laidWorld_met (os : Os) (args : Array Value) : laidMetH Tryd.prog Rows.fnRawFieldsAddRefusesFailedReadRow.laid ((laidWorld os).forCall (fun _ _ => 0) ⟨#[], args, []⟩).memory := by
  have h : laidMet Tryd.prog Rows.fnRawFieldsAddRefusesFailedReadRow.laid ((laidWorld os).forCall (fun _ _ => 0) ⟨#[], args, []⟩).memory :=
    laidMet_of_run (ps := [.cell 1 0, .cell low 0, .cell 2 0, .cell (low + 1) 0, .cell 0 0, .cell (low + 2) 0]) 8 (by kernel_rfl) (by kernel_rfl) (by kernel_rfl)
  exact h

/-- WHAT THE WALK IS TOLD OF A SLICE OF INTEGERS THAT CAME IN. -/
def IsRow (k : IntKind) (w : World) (a : Option Addr) (len cap : Nat) (zs : List Int) : Prop :=
  (a = none ∧ len = 0 ∧ cap = 0 ∧ zs = []) ∨
  ∃ x, a = some x ∧ len ≤ cap ∧ cap ≤ maxLen ∧ zs.length = cap ∧ (∀ i, i < zs.length → w.cell? (x.add i) = some (.int k (zs.getD i 0))) ∧ ∀ n ∈ zs, (Lit.int k n).wf = true

theorem IsRow.sa {w : World} {x : Addr} {len cap : Nat} {zs : List Int} (hl : len ≤ cap) (hz : zs.length = cap) (hc : ∀ i, i < zs.length → w.cell? (x.add i) = some (.int .u8 (zs.getD i 0))) : (zs.take len).length = len ∧ Do.SA w x (zs.take len) := by
  refine ⟨by rw [List.length_take]; omega, fun i hi => ?_⟩
  rw [List.length_take] at hi
  rw [hc i (by omega)]
  simp [List.getD_eq_getElem?_getD, List.getElem?_take_of_lt (show i < len by omega)]

/-! ### THE WALK -/
theorem walk (s1 s2 s3 : ByteArray) (a1 a2 a3 : Option Addr) (len1 len2 len3 cap1 cap2 cap3 : Nat) (z1 z2 z3 : List Int) (w : World) (w1 : IsRow .u8 w a1 len1 cap1 z1) (w2 : IsRow .u8 w a2 len2 cap2 z2) (w3 : IsRow .u8 w a3 len3 cap3 z3) (aE : Addr) (ca : Array Value) (ta : TypeId) (hE : w.cell? ⟨1, 0, none⟩ = some (.iface 73 (.pointer (some aE)))) (hee : w.heap[aE.block]? = some (.cells ca ta (0, 0))) :
    Calls Tryd.prog 4 #[.string s1, .slice a1 len1 cap1, .string s2, .slice a2 len2 cap2, .string s3, .slice a3 len3 cap3] w fun e w' => e = .returned (.bool true) ∧ Below w.heap.size w w' := by
  by_cases hb : (65536 : Int) < (s1.size : Int) ∨ (65536 : Int) < (len1 : Int) ∨ (65536 : Int) < (s2.size : Int) ∨ (65536 : Int) < (len2 : Int) ∨ (65536 : Int) < (s3.size : Int) ∨ (65536 : Int) < (len3 : Int)
  · refine (Do.refuses_big s1 s2 s3 a1 a2 a3 len1 len2 len3 cap1 cap2 cap3 w hb).mono ?_
    rintro e w' ⟨rfl, rfl⟩
    exact ⟨rfl, Below.refl _ _⟩
  · have hN := Do.one_lt hE
    have b1 : (s1.size : Int) ≤ 65536 := by omega
    have b2 : (len1 : Int) ≤ 65536 := by omega
    have b3 : (s2.size : Int) ≤ 65536 := by omega
    have b4 : (len2 : Int) ≤ 65536 := by omega
    have b5 : (s3.size : Int) ≤ 65536 := by omega
    have b6 : (len3 : Int) ≤ 65536 := by omega
    rcases w1 with ⟨rfl, rfl, rfl, rfl⟩ | ⟨x1, rfl, hl1, _, hz1, hc1, _⟩
    · rcases w2 with ⟨rfl, rfl, rfl, rfl⟩ | ⟨x2, rfl, hl2, _, hz2, hc2, _⟩
      · rcases w3 with ⟨rfl, rfl, rfl, rfl⟩ | ⟨x3, rfl, hl3, _, hz3, hc3, _⟩
        · exact Do.refuses_nnn s1 s2 s3 [] [] [] 0 0 0 0 0 0 w  rfl rfl rfl b1 b2 b3 b4 b5 b6 rfl rfl rfl rfl rfl rfl hN aE ca ta hE hee (eql_same aE) (eql_nil aE)
        · obtain ⟨e3, r3⟩ := IsRow.sa hl3 hz3 hc3
          exact Do.refuses_nns s1 s2 s3 [] [] _ 0 0 len3 0 0 cap3 w x3 rfl rfl e3 b1 b2 b3 b4 b5 b6 rfl rfl rfl rfl r3 hN aE ca ta hE hee (eql_same aE) (eql_nil aE)
      · obtain ⟨e2, r2⟩ := IsRow.sa hl2 hz2 hc2
        rcases w3 with ⟨rfl, rfl, rfl, rfl⟩ | ⟨x3, rfl, hl3, _, hz3, hc3, _⟩
        · exact Do.refuses_nsn s1 s2 s3 [] _ [] 0 len2 0 0 cap2 0 w x2 rfl e2 rfl b1 b2 b3 b4 b5 b6 rfl rfl r2 rfl rfl hN aE ca ta hE hee (eql_same aE) (eql_nil aE)
        · obtain ⟨e3, r3⟩ := IsRow.sa hl3 hz3 hc3
          exact Do.refuses_nss s1 s2 s3 [] _ _ 0 len2 len3 0 cap2 cap3 w x2 x3 rfl e2 e3 b1 b2 b3 b4 b5 b6 rfl rfl r2 r3 hN aE ca ta hE hee (eql_same aE) (eql_nil aE)
    · obtain ⟨e1, r1⟩ := IsRow.sa hl1 hz1 hc1
      rcases w2 with ⟨rfl, rfl, rfl, rfl⟩ | ⟨x2, rfl, hl2, _, hz2, hc2, _⟩
      · rcases w3 with ⟨rfl, rfl, rfl, rfl⟩ | ⟨x3, rfl, hl3, _, hz3, hc3, _⟩
        · exact Do.refuses_snn s1 s2 s3 _ [] [] len1 0 0 cap1 0 0 w x1 e1 rfl rfl b1 b2 b3 b4 b5 b6 r1 rfl rfl rfl rfl hN aE ca ta hE hee (eql_same aE) (eql_nil aE)
        · obtain ⟨e3, r3⟩ := IsRow.sa hl3 hz3 hc3
          exact Do.refuses_sns s1 s2 s3 _ [] _ len1 0 len3 cap1 0 cap3 w x1 x3 e1 rfl e3 b1 b2 b3 b4 b5 b6 r1 rfl rfl r3 hN aE ca ta hE hee (eql_same aE) (eql_nil aE)
      · obtain ⟨e2, r2⟩ := IsRow.sa hl2 hz2 hc2
        rcases w3 with ⟨rfl, rfl, rfl, rfl⟩ | ⟨x3, rfl, hl3, _, hz3, hc3, _⟩
        · exact Do.refuses_ssn s1 s2 s3 _ _ [] len1 len2 0 cap1 cap2 0 w x1 x2 e1 e2 rfl b1 b2 b3 b4 b5 b6 r1 r2 rfl rfl hN aE ca ta hE hee (eql_same aE) (eql_nil aE)
        · obtain ⟨e3, r3⟩ := IsRow.sa hl3 hz3 hc3
          exact Do.refuses_sss s1 s2 s3 _ _ _ len1 len2 len3 cap1 cap2 cap3 w x1 x2 x3 e1 e2 e3 b1 b2 b3 b4 b5 b6 r1 r2 r3 hN aE ca ta hE hee (eql_same aE) (eql_nil aE)

/-! ### THE ROW's STEP -/
set_option maxRecDepth 100000 in
theorem lifted (os : Os) (started : os.Started) (H : Type) (enc : TypeId × Value → H) :
    ReturnsInHanded {} Tryd.checked os 4 .any (fun w args => (Rows.fnRawFieldsAddRefusesFailedReadSpec.pre enc Tryd.prog Tryd.f4 [] false w args ∧ laidMetH Tryd.prog Rows.fnRawFieldsAddRefusesFailedReadRow.laid w) ∧ sizedMet enc Tryd.prog Tryd.f4 (OpenSpec.ofChange Rows.fnRawFieldsAddRefusesFailedReadSpec) false w args)
      (Rows.fnRawFieldsAddRefusesFailedReadSpec.post enc Tryd.prog Tryd.f4 false true false false) := by
  refine returnsInHanded_of_change_and (C := Tryd.checked) (X := fun w _ => laidMetH Tryd.prog Rows.fnRawFieldsAddRefusesFailedReadRow.laid w) (fun _ _ _ hh h => h.of_heap hh) own started (by kernel_rfl) Tryd.func4
    (ChangeSpec.witness_at (enc := enc) (C := Tryd.checked) (os := os) (X := fun w _ => laidMetH Tryd.prog Rows.fnRawFieldsAddRefusesFailedReadRow.laid w) false (laidWorld os) #[.string ByteArray.empty, .slice none 0 0, .string ByteArray.empty, .slice none 0 0, .string ByteArray.empty, .slice none 0 0] 8 rfl (by kernel_rfl) (by kernel_rfl) (by kernel_rfl) (by kernel_rfl) (by kernel_rfl) (laidWorld_met os _)) ?_
  intro W base args ds gs before hval0 hW _ _ hL _
  have hval : ∀ (j : Nat) t v, Tryd.f4.params[j]? = some t → args[j]? = some v → Value.okWide Tryd.prog W .any base t v := hval0
  have hW' := hW
  obtain ⟨p, q, hA0, hV, rfl, hfz, hnd⟩ := hW
  have hA : DataW.TrodAll enc Tryd.prog W 0 (fun _ => true) true Tryd.f4.params.toList args.toList ds p := hA0
  rw [Tryd.params4] at hA hval
  obtain ⟨v0, vs0, d0, ds0, p0, q0, hargs, rfl, rfl, h0, r0⟩ := trodAll_cons hA
  obtain ⟨v1, vs1, d1, ds1, p1, q1, rfl, rfl, rfl, h1, r1⟩ := trodAll_cons r0
  obtain ⟨v2, vs2, d2, ds2, p2, q2, rfl, rfl, rfl, h2, r2⟩ := trodAll_cons r1
  obtain ⟨v3, vs3, d3, ds3, p3, q3, rfl, rfl, rfl, h3, r3⟩ := trodAll_cons r2
  obtain ⟨v4, vs4, d4, ds4, p4, q4, rfl, rfl, rfl, h4, r4⟩ := trodAll_cons r3
  obtain ⟨v5, vs5, d5, ds5, p5, q5, rfl, rfl, rfl, h5, r5⟩ := trodAll_cons r4
  obtain ⟨rfl, rfl, rfl⟩ := trodAll_nil r5
  obtain rfl : args = #[v0, v1, v2, v3, v4, v5] := by cases args; simp_all
  obtain ⟨rfl, rfl⟩ := trodVars_none hV
  obtain ⟨s0, rfl, rfl, rfl, w0⟩ := open_string Tryd.underlying9 (hval 0 9 v0 rfl rfl) h0
  obtain ⟨a1, len1, cap1, rfl⟩ := okWide_slice Tryd.underlying22 (hval 1 22 v1 rfl rfl)
  have k1 := h1
  have lt1 : ∀ x ∈ p1, x.block < W.heap.size := by obtain ⟨m, hm⟩ := k1; exact DataW.trod_lt m _ _ _ hm
  obtain ⟨z1, w1⟩ : ∃ zs, IsRow .u8 W a1 len1 cap1 zs := by
    obtain ⟨fuel, hf⟩ := h1
    rcases open_ints Tryd.underlying22 Tryd.underlying5 (by kernel_rfl) hf with ⟨hcs, _⟩ | ⟨x, l, c, zs, hcs, _, hl, hm, hz, _, hcell, hwz⟩
    · simp [Value.cells] at hcs
      obtain ⟨rfl, rfl, rfl⟩ := hcs
      exact ⟨[], .inl ⟨rfl, rfl, rfl, rfl⟩⟩
    · simp [Value.cells] at hcs
      obtain ⟨rfl, rfl, rfl⟩ := hcs
      exact ⟨zs, .inr ⟨_, rfl, hl, hm, by simpa using hz, hcell, hwz⟩⟩
  obtain ⟨s2, rfl, rfl, rfl, w2⟩ := open_string Tryd.underlying9 (hval 2 9 v2 rfl rfl) h2
  obtain ⟨a3, len3, cap3, rfl⟩ := okWide_slice Tryd.underlying22 (hval 3 22 v3 rfl rfl)
  have k3 := h3
  have lt3 : ∀ x ∈ p3, x.block < W.heap.size := by obtain ⟨m, hm⟩ := k3; exact DataW.trod_lt m _ _ _ hm
  obtain ⟨z3, w3⟩ : ∃ zs, IsRow .u8 W a3 len3 cap3 zs := by
    obtain ⟨fuel, hf⟩ := h3
    rcases open_ints Tryd.underlying22 Tryd.underlying5 (by kernel_rfl) hf with ⟨hcs, _⟩ | ⟨x, l, c, zs, hcs, _, hl, hm, hz, _, hcell, hwz⟩
    · simp [Value.cells] at hcs
      obtain ⟨rfl, rfl, rfl⟩ := hcs
      exact ⟨[], .inl ⟨rfl, rfl, rfl, rfl⟩⟩
    · simp [Value.cells] at hcs
      obtain ⟨rfl, rfl, rfl⟩ := hcs
      exact ⟨zs, .inr ⟨_, rfl, hl, hm, by simpa using hz, hcell, hwz⟩⟩
  obtain ⟨s4, rfl, rfl, rfl, w4⟩ := open_string Tryd.underlying9 (hval 4 9 v4 rfl rfl) h4
  obtain ⟨a5, len5, cap5, rfl⟩ := okWide_slice Tryd.underlying22 (hval 5 22 v5 rfl rfl)
  have k5 := h5
  have lt5 : ∀ x ∈ p5, x.block < W.heap.size := by obtain ⟨m, hm⟩ := k5; exact DataW.trod_lt m _ _ _ hm
  obtain ⟨z5, w5⟩ : ∃ zs, IsRow .u8 W a5 len5 cap5 zs := by
    obtain ⟨fuel, hf⟩ := h5
    rcases open_ints Tryd.underlying22 Tryd.underlying5 (by kernel_rfl) hf with ⟨hcs, _⟩ | ⟨x, l, c, zs, hcs, _, hl, hm, hz, _, hcell, hwz⟩
    · simp [Value.cells] at hcs
      obtain ⟨rfl, rfl, rfl⟩ := hcs
      exact ⟨[], .inl ⟨rfl, rfl, rfl, rfl⟩⟩
    · simp [Value.cells] at hcs
      obtain ⟨rfl, rfl, rfl⟩ := hcs
      exact ⟨zs, .inr ⟨_, rfl, hl, hm, by simpa using hz, hcell, hwz⟩⟩
  obtain ⟨aE, ca, ta, hE, hee⟩ := eof_of_laid hL
  clear hA0 hval0
  refine (walk s0 s2 s4 a1 a3 a5 len1 len3 len5 cap1 cap3 cap5 z1 z3 z5 W w1 w3 w5 aE ca ta hE hee).mono fun e W' ⟨he, bel⟩ => ?_
  subst he
  exact ⟨_, rfl, _, _, _, [], _, [], hW', trodAll_mk1 (shut_bool Tryd.underlying4 _), (trodAll_cons_mk (shut_string Tryd.underlying9 w0) (trodAll_cons_mk (Below.trod laidOut (by kernel_rfl) (of_decide_eq_true (by kernel_rfl)) k1 bel lt1) (trodAll_cons_mk (shut_string Tryd.underlying9 w2) (trodAll_cons_mk (Below.trod laidOut (by kernel_rfl) (of_decide_eq_true (by kernel_rfl)) k3 bel lt3) (trodAll_cons_mk (shut_string Tryd.underlying9 w4) (trodAll_cons_mk (Below.trod laidOut (by kernel_rfl) (of_decide_eq_true (by kernel_rfl)) k5 bel lt5) trodAll_mk0)))))), rfl, bel.frame _, fun h => by cases h⟩

theorem row_holds : Rows.FnRawFieldsAddRefusesFailedReadSaid :=
  OpenClaim.holds_of_wide 4 Tryd.f4 rfl rfl rfl rfl rfl rfl rfl ⟨rfl, rfl, rfl, rfl, rfl⟩ rfl rfl rfl rfl rfl (by kernel_rfl) Tryd.func4 (by kernel_rfl)
    (of_decide_eq_true (by kernel_rfl)) (by unfold Func.isWrapper; first | (rw [if_pos (by decide +kernel)]; kernel_rfl) | (rw [if_neg (by decide +kernel)]; exact ⟨rfl, rfl⟩))
    (fun os started H enc _ => lifted os started H enc)

/-- ████ THE STATEMENT ████ -/
theorem proved : Rows.FnRawFieldsAddRefusesFailedReadCardSaid :=
  Claim7.holds_tied_plain_at .later [] [.sentinel, .sentinel, .sentinel] true (true, "5666f0f6261e7e5808395a5e59d4b0ba72f9f584b17a92b09b62d0be3bc931fc") true
    row_holds (fun _ h => by cases h) (by kernel_rfl) (fun _ h => by cases h) fnRawFieldsAddRefusesFailedRead_row_tie rfl ⟨rfl, rfl⟩ (by kernel_rfl) rfl
    (fun f fn hf hfn => by
      obtain rfl : f = 4 := Option.some.inj ((show Tryd.prog.funcNamed "example.com/acacia-ant/acacia-ant/zzlaws_internal_canon_b1.FnRawFieldsAddRefusesFailedRead" = some 4 by kernel_rfl).symm.trans hf) |>.symm
      obtain rfl : fn = Tryd.f4 := (Option.some.inj (Tryd.func4.symm.trans hfn)).symm
      exact ⟨by kernel_rfl, fun j t ht => by
        rw [Tryd.params4] at ht
        have h3 : t = 9 ∨ t = 22 := by
          rcases j with _ | _ | _ | _ | _ | _ | j
          · exact .inl (by simpa using ht.symm)
          · exact .inr (by simpa using ht.symm)
          · exact .inl (by simpa using ht.symm)
          · exact .inr (by simpa using ht.symm)
          · exact .inl (by simpa using ht.symm)
          · exact .inr (by simpa using ht.symm)
          · simp at ht
        rcases h3 with rfl | rfl
        · exact (show Tryd.prog.wantsStandIn 9 = false by kernel_rfl)
        · exact (show Tryd.prog.wantsStandIn 22 = false by kernel_rfl)⟩)
    (by kernel_rfl)
#print axioms proved
end Go.Proofs.Qxb6613323aDoor.fnRawFieldsAddRefusesFailedRead
