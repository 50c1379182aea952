/-
  NARROWER THAN 'FOR EVERY INPUT', by the rows' own cells (each row's printed sentence says how): FnLaterTermIsRoleTaken: ifaces, laid.
  DERIVED. THE GIVEN ROWS OF THIS SEAT. 1 by the template 'for every input the law returns true; each argument reads behind the call as it read before'; 0 by the template 'total and deterministic' (their statements: Qxb6613159aFmtTotals.lean).
  GIVEN WITH THE SEED: the statements are not yours to turn. If you find one false, say at which input.
  Laid BY PROGRAM, IN A SANDBOX (cutbox-rows.mjs): the forced cells as the released guide's own fill.sh prints them over the translation 7b61a90de2bd5db4… (all of the seat's roots in one cut). By AI agents, Wed Nov 11 2026. No macro, syntax, notation, axiom, sorry.
-/
import Derived.Test.Qxb6613159aFmtChecked
import GoSem.Claim
import GoSem.ClaimJoined
import GoSem.ClaimMapViews
import Derived.JoinedTies
import Derived.KernelRfl
namespace Go.Proofs.Qxb6613159aFmt
/- THE CELL 'sum', in the pinned program and in every row, IS THE sha256 OF THE DUMP (.gsa) THAT Qxb6613159aFmtProg.lean LOADS. Nothing in Lean hashes anything: it is a label: what it is worth is what the hold of that sum in a sandbox is worth. -/
noncomputable def Tryf.pinned : Pinned := { name := "qxb6613159afmt", sum := "7b61a90de2bd5db4b00fe245ac281e23c49f0b73f2a91486356dc55ed8096f2e", checked := Tryf.checked }
namespace Rows
def none {H : Type} : Left H := { results := [], args := [] }

/- WHAT THE LISTED PACKAGE-LEVEL VARIABLES READ AS WHEN THE CALL BEGINS. Each datum BY PROGRAM (the guide's laid-datum.mjs) off the statement by which the dump's own 'gosem.cut.vars' lays the variable. In a bare row this is a premise. The card (Qxb6613159aFmtCards.lean) ties it to the program's text. -/
def laid_example_com_syncline_syncline_errRoleTaken {H : Type} : DataW H := .iface "*errors.errorString" (.ptr (.agg [.lit (.string [97, 110, 111, 116, 104, 101, 114, 32, 97, 103, 101, 110, 116, 32, 104, 97, 115, 32, 99, 108, 97, 105, 109, 101, 100, 32, 97, 32, 108, 97, 116, 101, 114, 32, 116, 101, 114, 109, 32, 111, 102, 32, 116, 104, 101, 32, 114, 111, 108, 101])]))

/-- 'zzlaws_root_b1.FnLaterTermIsRoleTaken': WHATEVER THE INPUT: true; the input reads as it did. -/
def fnLaterTermIsRoleTakenSpec : ChangeSpec := { name := "fnLaterTermIsRoleTaken", vars := ["example.com/syncline/syncline.errRoleTaken"], fn := fun _ => fun
  | [d1, d2, g1] => { results := [.lit (.bool true)], args := [d1, d2], vars := [g1] }
  | _ => none }
def fnLaterTermIsRoleTakenRow : OpenClaim := { program := "qxb6613159afmt", sum := "7b61a90de2bd5db4b00fe245ac281e23c49f0b73f2a91486356dc55ed8096f2e", func := "example.com/syncline/syncline/zzlaws_root_b1.FnLaterTermIsRoleTaken", spec := "fnLaterTermIsRoleTaken", stops := ["fmt.errorf"], inPlace := ["fmt.errorf", "internal/reflectlite.TypeOf"], unfollowed := true, recurses := true, named := ["example.com/syncline/syncline.errRoleTaken"], ifaces := true, apart := false, laid := [("example.com/syncline/syncline.errRoleTaken", laid_example_com_syncline_syncline_errRoleTaken)] }
/-- NO THEOREM (fmt's text is open here; it may be false): for the released tool's asking of the row's closed facts alone. THE STATEMENT IS 'FnLaterTermIsRoleTakenToldSaid' (Qxb6613159aFmtCards.lean). -/
def FnLaterTermIsRoleTakenFormAsk : Prop := fnLaterTermIsRoleTakenRow.holds Tryf.pinned (OpenSpec.ofChange fnLaterTermIsRoleTakenSpec)

/-- ITS FALSE NEIGHBOUR: 'it returns false'. Refute it at one input. -/
def fnLaterTermIsRoleTakenWrong : ChangeSpec := { name := "fnLaterTermIsRoleTaken", vars := ["example.com/syncline/syncline.errRoleTaken"], fn := fun _ => fun
  | [d1, d2, g1] => { results := [.lit (.bool false)], args := [d1, d2], vars := [g1] }
  | _ => none }
def FnLaterTermIsRoleTakenWrongFormAsk : Prop := fnLaterTermIsRoleTakenRow.holds Tryf.pinned (OpenSpec.ofChange fnLaterTermIsRoleTakenWrong)

end Rows
end Go.Proofs.Qxb6613159aFmt
