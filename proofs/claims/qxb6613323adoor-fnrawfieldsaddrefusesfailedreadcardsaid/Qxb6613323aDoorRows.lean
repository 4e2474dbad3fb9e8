/-
  NARROWER THAN 'FOR EVERY INPUT', by the rows' own cells (each row's printed sentence says how): FnRawFieldsAddKeepsBothFields: laid · FnRawFieldsAddRefusesFailedRead: laid.
  DERIVED. THE GIVEN ROWS OF THIS SEAT. 2 by the template 'for every input the law returns true; each argument reads behind the call as it read before'; 0 by the template 'total and deterministic' (their statements: Qxb6613323aDoorTotals.lean).
  GIVEN WITH THE SEED: the statements are not yours to turn. If you find one false, say at which input.
  Laid BY PROGRAM, IN A SANDBOX (cutbox-rows.mjs): the forced cells as the released guide's own fill.sh prints them over the translation bb4154899c37831f… (all of the seat's roots in one cut). By AI agents, Wed Nov 11 2026. No macro, syntax, notation, axiom, sorry.
-/
import Derived.Test.Qxb6613323aDoorChecked
import GoSem.Claim
import GoSem.ClaimJoined
import GoSem.ClaimMapViews
import Derived.JoinedTies
import Derived.KernelRfl
namespace Go.Proofs.Qxb6613323aDoor
/- THE CELL 'sum', in the pinned program and in every row, IS THE sha256 OF THE DUMP (.gsa) THAT Qxb6613323aDoorProg.lean LOADS. Nothing in Lean hashes anything: it is a label: what it is worth is what the hold of that sum in a sandbox is worth. -/
noncomputable def Tryd.pinned : Pinned := { name := "qxb6613323adoor", sum := "bb4154899c37831f56cb425fb67bcd161a360b591c50c0ca5e9a821840e501d9", checked := Tryd.checked }
namespace Rows
def none {H : Type} : Left H := { results := [], args := [] }

/- WHAT THE LISTED PACKAGE-LEVEL VARIABLES READ AS WHEN THE CALL BEGINS. Each datum BY PROGRAM (the guide's laid-datum.mjs) off the statement by which the dump's own 'gosem.cut.vars' lays the variable. In a bare row this is a premise. The card (Qxb6613323aDoorCards.lean) ties it to the program's text. -/
def laid_io_EOF {H : Type} : DataW H := .iface "*errors.errorString" (.ptr (.agg [.lit (.string [69, 79, 70])]))
def laid_bytes_ErrTooLarge {H : Type} : DataW H := .iface "*errors.errorString" (.ptr (.agg [.lit (.string [98, 121, 116, 101, 115, 46, 66, 117, 102, 102, 101, 114, 58, 32, 116, 111, 111, 32, 108, 97, 114, 103, 101])]))
def laid_bytes_errNegativeRead {H : Type} : DataW H := .iface "*errors.errorString" (.ptr (.agg [.lit (.string [98, 121, 116, 101, 115, 46, 66, 117, 102, 102, 101, 114, 58, 32, 114, 101, 97, 100, 101, 114, 32, 114, 101, 116, 117, 114, 110, 101, 100, 32, 110, 101, 103, 97, 116, 105, 118, 101, 32, 99, 111, 117, 110, 116, 32, 102, 114, 111, 109, 32, 82, 101, 97, 100])]))

/-- 'zzlaws_internal_canon_b1.FnRawFieldsAddKeepsBothFields': WHATEVER THE INPUT: true; the input reads as it did. -/
def fnRawFieldsAddKeepsBothFieldsSpec : ChangeSpec := { name := "fnRawFieldsAddKeepsBothFields", fn := fun _ => fun
  | [d1, d2, d3, d4] => { results := [.lit (.bool true)], args := [d1, d2, d3, d4] }
  | _ => none }
def fnRawFieldsAddKeepsBothFieldsRow : OpenClaim := { program := "qxb6613323adoor", sum := "bb4154899c37831f56cb425fb67bcd161a360b591c50c0ca5e9a821840e501d9", func := "example.com/acacia-ant/acacia-ant/zzlaws_internal_canon_b1.FnRawFieldsAddKeepsBothFields", spec := "fnRawFieldsAddKeepsBothFields", unfollowed := true, recurses := true, named := ["bytes.ErrTooLarge", "bytes.errNegativeRead", "io.EOF"], apart := false, laid := [("io.EOF", laid_io_EOF), ("bytes.ErrTooLarge", laid_bytes_ErrTooLarge), ("bytes.errNegativeRead", laid_bytes_errNegativeRead)] }
def FnRawFieldsAddKeepsBothFieldsSaid : Prop := fnRawFieldsAddKeepsBothFieldsRow.holds Tryd.pinned (OpenSpec.ofChange fnRawFieldsAddKeepsBothFieldsSpec)

/-- ITS FALSE NEIGHBOUR: 'it returns false'. Refute it at one input. -/
def fnRawFieldsAddKeepsBothFieldsWrong : ChangeSpec := { name := "fnRawFieldsAddKeepsBothFields", fn := fun _ => fun
  | [d1, d2, d3, d4] => { results := [.lit (.bool false)], args := [d1, d2, d3, d4] }
  | _ => none }
def FnRawFieldsAddKeepsBothFieldsWrongFalsely : Prop := fnRawFieldsAddKeepsBothFieldsRow.holds Tryd.pinned (OpenSpec.ofChange fnRawFieldsAddKeepsBothFieldsWrong)

/-- 'zzlaws_internal_canon_b1.FnRawFieldsAddRefusesFailedRead': WHATEVER THE INPUT: true; the input reads as it did. -/
def fnRawFieldsAddRefusesFailedReadSpec : ChangeSpec := { name := "fnRawFieldsAddRefusesFailedRead", fn := fun _ => fun
  | [d1, d2, d3, d4, d5, d6] => { results := [.lit (.bool true)], args := [d1, d2, d3, d4, d5, d6] }
  | _ => none }
def fnRawFieldsAddRefusesFailedReadRow : OpenClaim := { program := "qxb6613323adoor", sum := "bb4154899c37831f56cb425fb67bcd161a360b591c50c0ca5e9a821840e501d9", func := "example.com/acacia-ant/acacia-ant/zzlaws_internal_canon_b1.FnRawFieldsAddRefusesFailedRead", spec := "fnRawFieldsAddRefusesFailedRead", unfollowed := true, recurses := true, named := ["bytes.ErrTooLarge", "bytes.errNegativeRead", "io.EOF"], apart := false, laid := [("io.EOF", laid_io_EOF), ("bytes.ErrTooLarge", laid_bytes_ErrTooLarge), ("bytes.errNegativeRead", laid_bytes_errNegativeRead)] }
def FnRawFieldsAddRefusesFailedReadSaid : Prop := fnRawFieldsAddRefusesFailedReadRow.holds Tryd.pinned (OpenSpec.ofChange fnRawFieldsAddRefusesFailedReadSpec)

/-- ITS FALSE NEIGHBOUR: 'it returns false'. Refute it at one input. -/
def fnRawFieldsAddRefusesFailedReadWrong : ChangeSpec := { name := "fnRawFieldsAddRefusesFailedRead", fn := fun _ => fun
  | [d1, d2, d3, d4, d5, d6] => { results := [.lit (.bool false)], args := [d1, d2, d3, d4, d5, d6] }
  | _ => none }
def FnRawFieldsAddRefusesFailedReadWrongFalsely : Prop := fnRawFieldsAddRefusesFailedReadRow.holds Tryd.pinned (OpenSpec.ofChange fnRawFieldsAddRefusesFailedReadWrong)

end Rows
end Go.Proofs.Qxb6613323aDoor
