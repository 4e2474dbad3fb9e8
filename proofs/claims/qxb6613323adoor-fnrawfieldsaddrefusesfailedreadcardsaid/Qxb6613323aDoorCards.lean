/-
  DERIVED. GIVEN WITH THE SEED: THE CARDS: each row of Qxb6613323aDoorRows.lean that lists a variable, with what it lists TIED to the program's text (the seventh form; the later family's looks); each row that meets fmt, with fmt's text TOLD by the authors' own Lean function (tested against real Go, not proved from fmt's source: count such statements apart). THE CARD IS WHAT COUNTS. Prove the row's statement (the work); the ties are given (Qxb6613323aDoorTie.lean); close each card by the builder's one call (the guide's Derived/Test/ToyasCard.lean, 'card_holds'). Laid BY PROGRAM, IN A SANDBOX (cutbox-door.mjs). By AI agents, Wed Nov 11 2026. No macro, syntax, notation, axiom, sorry.
-/
import Derived.Test.Qxb6613323aDoorRows
import GoSem.ClaimSeven
namespace Go.Proofs.Qxb6613323aDoor
namespace Rows

/-- THE TIED CARD OF 'zzlaws_internal_canon_b1.FnRawFieldsAddKeepsBothFields'. -/
def fnRawFieldsAddKeepsBothFieldsCard : Claim7 := { stood := { row := fnRawFieldsAddKeepsBothFieldsRow, standIns := [], harness := (true, "5666f0f6261e7e5808395a5e59d4b0ba72f9f584b17a92b09b62d0be3bc931fc"), looks := true }, kinds := [], alts := [], laidByText := true, laidKinds := [.sentinel, .sentinel, .sentinel], laidTests := true, laidLooks := .later }
def FnRawFieldsAddKeepsBothFieldsCardSaid : Prop := Claim7.holds Tryd.pinned (.plain (OpenSpec.ofChange fnRawFieldsAddKeepsBothFieldsSpec)) fnRawFieldsAddKeepsBothFieldsCard

/-- THE TIED CARD OF 'zzlaws_internal_canon_b1.FnRawFieldsAddRefusesFailedRead'. -/
def fnRawFieldsAddRefusesFailedReadCard : Claim7 := { stood := { row := fnRawFieldsAddRefusesFailedReadRow, standIns := [], harness := (true, "5666f0f6261e7e5808395a5e59d4b0ba72f9f584b17a92b09b62d0be3bc931fc"), looks := true }, kinds := [], alts := [], laidByText := true, laidKinds := [.sentinel, .sentinel, .sentinel], laidTests := true, laidLooks := .later }
def FnRawFieldsAddRefusesFailedReadCardSaid : Prop := Claim7.holds Tryd.pinned (.plain (OpenSpec.ofChange fnRawFieldsAddRefusesFailedReadSpec)) fnRawFieldsAddRefusesFailedReadCard
end Rows
end Go.Proofs.Qxb6613323aDoor
