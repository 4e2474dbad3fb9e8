/-
  No cell of these rows narrows 'for every input' (looked for: loops, veiled, ifaces, maps, wideKeys, modest, calm, conditions, laid).
  DERIVED. THE GIVEN ROWS OF THIS SEAT. 3 by the template 'for every input the law returns true; each argument reads behind the call as it read before'; 0 by the template 'total and deterministic' (their statements: Qxb6613264aTotals.lean).
  GIVEN WITH THE SEED: the statements are not yours to turn. If you find one false, say at which input.
  Laid BY PROGRAM, IN A SANDBOX (cutbox-rows.mjs): the forced cells as the released guide's own fill.sh prints them over the translation 36ef41ee9b038543… (all of the seat's roots in one cut). By AI agents, Wed Nov 11 2026. No macro, syntax, notation, axiom, sorry.
-/
import Derived.Test.Qxb6613264aChecked
import GoSem.Claim
import GoSem.ClaimJoined
import GoSem.ClaimMapViews
import Derived.JoinedTies
import Derived.KernelRfl
namespace Go.Proofs.Qxb6613264a
/- THE CELL 'sum', in the pinned program and in every row, IS THE sha256 OF THE DUMP (.gsa) THAT Qxb6613264aProg.lean LOADS. Nothing in Lean hashes anything: it is a label: what it is worth is what the hold of that sum in a sandbox is worth. -/
noncomputable def Try.pinned : Pinned := { name := "qxb6613264a", sum := "36ef41ee9b038543609a4816ca822a6e96f4e40e7d0fe92ffbceec2885ec33a9", checked := Try.checked }
namespace Rows
def none {H : Type} : Left H := { results := [], args := [] }

/-- 'zzlaws_schedule_b1.FnOfferOtherEitherOrderNamesGreatestOther': WHATEVER THE INPUT: true; the input reads as it did. -/
def fnOfferOtherEitherOrderNamesGreatestOtherSpec : ChangeSpec := { name := "fnOfferOtherEitherOrderNamesGreatestOther", fn := fun _ => fun
  | [d1, d2, d3, d4, d5, d6, d7, d8, d9] => { results := [.lit (.bool true)], args := [d1, d2, d3, d4, d5, d6, d7, d8, d9] }
  | _ => none }
def fnOfferOtherEitherOrderNamesGreatestOtherRow : OpenClaim := { program := "qxb6613264a", sum := "36ef41ee9b038543609a4816ca822a6e96f4e40e7d0fe92ffbceec2885ec33a9", func := "example.com/isoproof/isoproof/zzlaws_schedule_b1.FnOfferOtherEitherOrderNamesGreatestOther", spec := "fnOfferOtherEitherOrderNamesGreatestOther", unfollowed := true, recurses := true, apart := false }
def FnOfferOtherEitherOrderNamesGreatestOtherSaid : Prop := fnOfferOtherEitherOrderNamesGreatestOtherRow.holds Try.pinned (OpenSpec.ofChange fnOfferOtherEitherOrderNamesGreatestOtherSpec)

/-- ITS FALSE NEIGHBOUR: 'it returns false'. Refute it at one input. -/
def fnOfferOtherEitherOrderNamesGreatestOtherWrong : ChangeSpec := { name := "fnOfferOtherEitherOrderNamesGreatestOther", fn := fun _ => fun
  | [d1, d2, d3, d4, d5, d6, d7, d8, d9] => { results := [.lit (.bool false)], args := [d1, d2, d3, d4, d5, d6, d7, d8, d9] }
  | _ => none }
def FnOfferOtherEitherOrderNamesGreatestOtherWrongFalsely : Prop := fnOfferOtherEitherOrderNamesGreatestOtherRow.holds Try.pinned (OpenSpec.ofChange fnOfferOtherEitherOrderNamesGreatestOtherWrong)

/-- 'zzlaws_schedule_b1.FnVertexHeapLessTrichotomy': WHATEVER THE INPUT: true; the input reads as it did. -/
def fnVertexHeapLessTrichotomySpec : ChangeSpec := { name := "fnVertexHeapLessTrichotomy", fn := fun _ => fun
  | [d1, d2, d3] => { results := [.lit (.bool true)], args := [d1, d2, d3] }
  | _ => none }
def fnVertexHeapLessTrichotomyRow : OpenClaim := { program := "qxb6613264a", sum := "36ef41ee9b038543609a4816ca822a6e96f4e40e7d0fe92ffbceec2885ec33a9", func := "example.com/isoproof/isoproof/zzlaws_schedule_b1.FnVertexHeapLessTrichotomy", spec := "fnVertexHeapLessTrichotomy", apart := false }
def FnVertexHeapLessTrichotomySaid : Prop := fnVertexHeapLessTrichotomyRow.holds Try.pinned (OpenSpec.ofChange fnVertexHeapLessTrichotomySpec)

/-- ITS FALSE NEIGHBOUR: 'it returns false'. Refute it at one input. -/
def fnVertexHeapLessTrichotomyWrong : ChangeSpec := { name := "fnVertexHeapLessTrichotomy", fn := fun _ => fun
  | [d1, d2, d3] => { results := [.lit (.bool false)], args := [d1, d2, d3] }
  | _ => none }
def FnVertexHeapLessTrichotomyWrongFalsely : Prop := fnVertexHeapLessTrichotomyRow.holds Try.pinned (OpenSpec.ofChange fnVertexHeapLessTrichotomyWrong)

/-- 'zzlaws_schedule_b1.FnVertexHeapLessScanFindsLeast': WHATEVER THE INPUT: true; the input reads as it did. -/
def fnVertexHeapLessScanFindsLeastSpec : ChangeSpec := { name := "fnVertexHeapLessScanFindsLeast", fn := fun _ => fun
  | [d] => { results := [.lit (.bool true)], args := [d] }
  | _ => none }
def fnVertexHeapLessScanFindsLeastRow : OpenClaim := { program := "qxb6613264a", sum := "36ef41ee9b038543609a4816ca822a6e96f4e40e7d0fe92ffbceec2885ec33a9", func := "example.com/isoproof/isoproof/zzlaws_schedule_b1.FnVertexHeapLessScanFindsLeast", spec := "fnVertexHeapLessScanFindsLeast", apart := false }
def FnVertexHeapLessScanFindsLeastSaid : Prop := fnVertexHeapLessScanFindsLeastRow.holds Try.pinned (OpenSpec.ofChange fnVertexHeapLessScanFindsLeastSpec)

/-- ITS FALSE NEIGHBOUR: 'it returns false'. Refute it at one input. -/
def fnVertexHeapLessScanFindsLeastWrong : ChangeSpec := { name := "fnVertexHeapLessScanFindsLeast", fn := fun _ => fun
  | [d] => { results := [.lit (.bool false)], args := [d] }
  | _ => none }
def FnVertexHeapLessScanFindsLeastWrongFalsely : Prop := fnVertexHeapLessScanFindsLeastRow.holds Try.pinned (OpenSpec.ofChange fnVertexHeapLessScanFindsLeastWrong)

end Rows
end Go.Proofs.Qxb6613264a
