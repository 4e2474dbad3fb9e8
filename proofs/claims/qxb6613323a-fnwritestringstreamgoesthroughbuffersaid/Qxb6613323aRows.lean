/-
  No cell of these rows narrows 'for every input' (looked for: loops, veiled, ifaces, maps, wideKeys, modest, calm, conditions, laid).
  DERIVED. THE GIVEN ROWS OF THIS SEAT. 2 by the template 'for every input the law returns true; each argument reads behind the call as it read before'; 0 by the template 'total and deterministic' (their statements: Qxb6613323aTotals.lean).
  GIVEN WITH THE SEED: the statements are not yours to turn. If you find one false, say at which input.
  Laid BY PROGRAM, IN A SANDBOX (cutbox-rows.mjs): the forced cells as the released guide's own fill.sh prints them over the translation 06f02b952221bc8f… (all of the seat's roots in one cut). By AI agents, Wed Nov 11 2026. No macro, syntax, notation, axiom, sorry.
-/
import Derived.Test.Qxb6613323aChecked
import GoSem.Claim
import GoSem.ClaimJoined
import GoSem.ClaimMapViews
import Derived.JoinedTies
import Derived.KernelRfl
namespace Go.Proofs.Qxb6613323a
/- THE CELL 'sum', in the pinned program and in every row, IS THE sha256 OF THE DUMP (.gsa) THAT Qxb6613323aProg.lean LOADS. Nothing in Lean hashes anything: it is a label: what it is worth is what the hold of that sum in a sandbox is worth. -/
noncomputable def Try.pinned : Pinned := { name := "qxb6613323a", sum := "06f02b952221bc8f87da0397c7d47ba22161bd7a29f3c4082ca71e2834555d01", checked := Try.checked }
namespace Rows
def none {H : Type} : Left H := { results := [], args := [] }

/-- 'zzlaws_internal_canon_b1.FnWriteStreamGathersShortAndPassesLong': WHATEVER THE INPUT: true; the input reads as it did. -/
def fnWriteStreamGathersShortAndPassesLongSpec : ChangeSpec := { name := "fnWriteStreamGathersShortAndPassesLong", fn := fun _ => fun
  | [d1, d2, d3] => { results := [.lit (.bool true)], args := [d1, d2, d3] }
  | _ => none }
def fnWriteStreamGathersShortAndPassesLongRow : OpenClaim := { program := "qxb6613323a", sum := "06f02b952221bc8f87da0397c7d47ba22161bd7a29f3c4082ca71e2834555d01", func := "example.com/acacia-ant/acacia-ant/zzlaws_internal_canon_b1.FnWriteStreamGathersShortAndPassesLong", spec := "fnWriteStreamGathersShortAndPassesLong", unfollowed := true, recurses := true, apart := false }
def FnWriteStreamGathersShortAndPassesLongSaid : Prop := fnWriteStreamGathersShortAndPassesLongRow.holds Try.pinned (OpenSpec.ofChange fnWriteStreamGathersShortAndPassesLongSpec)

/-- ITS FALSE NEIGHBOUR: 'it returns false'. Refute it at one input. -/
def fnWriteStreamGathersShortAndPassesLongWrong : ChangeSpec := { name := "fnWriteStreamGathersShortAndPassesLong", fn := fun _ => fun
  | [d1, d2, d3] => { results := [.lit (.bool false)], args := [d1, d2, d3] }
  | _ => none }
def FnWriteStreamGathersShortAndPassesLongWrongFalsely : Prop := fnWriteStreamGathersShortAndPassesLongRow.holds Try.pinned (OpenSpec.ofChange fnWriteStreamGathersShortAndPassesLongWrong)

/-- 'zzlaws_internal_canon_b1.FnWriteStringStreamGoesThroughBuffer': WHATEVER THE INPUT: true; the input reads as it did. -/
def fnWriteStringStreamGoesThroughBufferSpec : ChangeSpec := { name := "fnWriteStringStreamGoesThroughBuffer", fn := fun _ => fun
  | [d1, d2, d3] => { results := [.lit (.bool true)], args := [d1, d2, d3] }
  | _ => none }
def fnWriteStringStreamGoesThroughBufferRow : OpenClaim := { program := "qxb6613323a", sum := "06f02b952221bc8f87da0397c7d47ba22161bd7a29f3c4082ca71e2834555d01", func := "example.com/acacia-ant/acacia-ant/zzlaws_internal_canon_b1.FnWriteStringStreamGoesThroughBuffer", spec := "fnWriteStringStreamGoesThroughBuffer", unfollowed := true, recurses := true, apart := false }
def FnWriteStringStreamGoesThroughBufferSaid : Prop := fnWriteStringStreamGoesThroughBufferRow.holds Try.pinned (OpenSpec.ofChange fnWriteStringStreamGoesThroughBufferSpec)

/-- ITS FALSE NEIGHBOUR: 'it returns false'. Refute it at one input. -/
def fnWriteStringStreamGoesThroughBufferWrong : ChangeSpec := { name := "fnWriteStringStreamGoesThroughBuffer", fn := fun _ => fun
  | [d1, d2, d3] => { results := [.lit (.bool false)], args := [d1, d2, d3] }
  | _ => none }
def FnWriteStringStreamGoesThroughBufferWrongFalsely : Prop := fnWriteStringStreamGoesThroughBufferRow.holds Try.pinned (OpenSpec.ofChange fnWriteStringStreamGoesThroughBufferWrong)

end Rows
end Go.Proofs.Qxb6613323a
