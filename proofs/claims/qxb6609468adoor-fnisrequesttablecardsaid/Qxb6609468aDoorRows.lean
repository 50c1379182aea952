/-
  NARROWER THAN 'FOR EVERY INPUT', by the rows' own cells (each row's printed sentence says how): FnIsRequestTable: maps, laid.
  DERIVED. THE GIVEN ROWS OF THIS SEAT. 1 by the template 'for every input the law returns true; each argument reads behind the call as it read before'; 0 by the template 'total and deterministic' (their statements: Qxb6609468aDoorTotals.lean).
  GIVEN WITH THE SEED: the statements are not yours to turn. If you find one false, say at which input.
  Laid BY PROGRAM, IN A SANDBOX (cutbox-rows.mjs): the forced cells as the released guide's own fill.sh prints them over the translation be8fcfdbddf31816… (all of the seat's roots in one cut). By AI agents, Wed Nov 11 2026. No macro, syntax, notation, axiom, sorry.
-/
import Derived.Test.Qxb6609468aDoorChecked
import GoSem.Claim
import GoSem.ClaimJoined
import GoSem.ClaimMapViews
import Derived.JoinedTies
import Derived.KernelRfl
namespace Go.Proofs.Qxb6609468aDoor
/- THE CELL 'sum', in the pinned program and in every row, IS THE sha256 OF THE DUMP (.gsa) THAT Qxb6609468aDoorProg.lean LOADS. Nothing in Lean hashes anything: it is a label: what it is worth is what the hold of that sum in a sandbox is worth. -/
noncomputable def Tryd.pinned : Pinned := { name := "qxb6609468adoor", sum := "be8fcfdbddf318169551bdc15306277870c65ce6c4d636a8a3159922611441a5", checked := Tryd.checked }
namespace Rows
def none {H : Type} : Left H := { results := [], args := [] }

/- WHAT THE LISTED PACKAGE-LEVEL VARIABLES READ AS WHEN THE CALL BEGINS. Each datum BY PROGRAM (the guide's laid-datum.mjs) off the statement by which the dump's own 'gosem.cut.vars' lays the variable. In a bare row this is a premise. The card (Qxb6609468aDoorCards.lean) ties it to the program's text. -/
def laid_example_com_shiftring_shiftring_internal_wire_replyTo {H : Type} : DataW H := .map [(.int .u8 1, .lit (.int .u8 2)), (.int .u8 3, .lit (.int .u8 4)), (.int .u8 5, .lit (.int .u8 6)), (.int .u8 8, .lit (.int .u8 9)), (.int .u8 10, .lit (.int .u8 11)), (.int .u8 12, .lit (.int .u8 14)), (.int .u8 13, .lit (.int .u8 14)), (.int .u8 15, .lit (.int .u8 17)), (.int .u8 16, .lit (.int .u8 17)), (.int .u8 18, .lit (.int .u8 19))]

/-- 'zzlaws_internal_wire_b1.FnIsRequestTable': WHATEVER THE INPUT: true; the input reads as it did. -/
def fnIsRequestTableSpec : ChangeSpec := { name := "fnIsRequestTable", vars := ["example.com/shiftring/shiftring/internal/wire.replyTo"], fn := fun _ => fun
  | [d, g1] => { results := [.lit (.bool true)], args := [d], vars := [g1] }
  | _ => none }
def fnIsRequestTableRow : OpenClaim := { program := "qxb6609468adoor", sum := "be8fcfdbddf318169551bdc15306277870c65ce6c4d636a8a3159922611441a5", func := "example.com/shiftring/shiftring/zzlaws_internal_wire_b1.FnIsRequestTable", spec := "fnIsRequestTable", named := ["example.com/shiftring/shiftring/internal/wire.replyTo"], maps := true, apart := false, laid := [("example.com/shiftring/shiftring/internal/wire.replyTo", laid_example_com_shiftring_shiftring_internal_wire_replyTo)] }
def FnIsRequestTableSaid : Prop := fnIsRequestTableRow.holds Tryd.pinned (OpenSpec.ofChange fnIsRequestTableSpec)

/-- ITS FALSE NEIGHBOUR: 'it returns false'. Refute it at one input. -/
def fnIsRequestTableWrong : ChangeSpec := { name := "fnIsRequestTable", vars := ["example.com/shiftring/shiftring/internal/wire.replyTo"], fn := fun _ => fun
  | [d, g1] => { results := [.lit (.bool false)], args := [d], vars := [g1] }
  | _ => none }
def FnIsRequestTableWrongFalsely : Prop := fnIsRequestTableRow.holds Tryd.pinned (OpenSpec.ofChange fnIsRequestTableWrong)

end Rows
end Go.Proofs.Qxb6609468aDoor
