/-
  No cell of these rows narrows 'for every input' (looked for: loops, veiled, ifaces, maps, wideKeys, modest, calm, conditions, laid).
  DERIVED. THE GIVEN ROWS OF THIS SEAT. 1 by the template 'for every input the law returns true; each argument reads behind the call as it read before'; 0 by the template 'total and deterministic' (their statements: Qxb6612969aFmtTotals.lean).
  GIVEN WITH THE SEED: the statements are not yours to turn. If you find one false, say at which input.
  Laid BY PROGRAM, IN A SANDBOX (cutbox-rows.mjs): the forced cells as the released guide's own fill.sh prints them over the translation 8b2435da52908c0c… (all of the seat's roots in one cut). By AI agents, Wed Nov 11 2026. No macro, syntax, notation, axiom, sorry.
-/
import Derived.Test.Qxb6612969aFmtChecked
import GoSem.Claim
import GoSem.ClaimJoined
import GoSem.ClaimMapViews
import Derived.JoinedTies
import Derived.KernelRfl
namespace Go.Proofs.Qxb6612969aFmt
/- THE CELL 'sum', in the pinned program and in every row, IS THE sha256 OF THE DUMP (.gsa) THAT Qxb6612969aFmtProg.lean LOADS. Nothing in Lean hashes anything: it is a label: what it is worth is what the hold of that sum in a sandbox is worth. -/
noncomputable def Tryf.pinned : Pinned := { name := "qxb6612969afmt", sum := "8b2435da52908c0c9e591b7bbc848b27313139b0756b976dfb64346462476eed", checked := Tryf.checked }
namespace Rows
def none {H : Type} : Left H := { results := [], args := [] }

/-- 'zzlaws_bootstrap_b1.FnRefusedByIDNANeverNil': WHATEVER THE INPUT: true; the input reads as it did. -/
def fnRefusedByIDNANeverNilSpec : ChangeSpec := { name := "fnRefusedByIDNANeverNil", fn := fun _ => fun
  | [d1, d2] => { results := [.lit (.bool true)], args := [d1, d2] }
  | _ => none }
def fnRefusedByIDNANeverNilRow : OpenClaim := { program := "qxb6612969afmt", sum := "8b2435da52908c0c9e591b7bbc848b27313139b0756b976dfb64346462476eed", func := "example.com/lodestar/lodestar/zzlaws_bootstrap_b1.FnRefusedByIDNANeverNil", spec := "fnRefusedByIDNANeverNil", stops := ["fmt.errorf"], inPlace := ["fmt.errorf"], apart := false }
/-- NO THEOREM (fmt's text is open here; it may be false): for the released tool's asking of the row's closed facts alone. THE STATEMENT IS 'FnRefusedByIDNANeverNilToldSaid' (Qxb6612969aFmtCards.lean). -/
def FnRefusedByIDNANeverNilFormAsk : Prop := fnRefusedByIDNANeverNilRow.holds Tryf.pinned (OpenSpec.ofChange fnRefusedByIDNANeverNilSpec)

/-- ITS FALSE NEIGHBOUR: 'it returns false'. Refute it at one input. -/
def fnRefusedByIDNANeverNilWrong : ChangeSpec := { name := "fnRefusedByIDNANeverNil", fn := fun _ => fun
  | [d1, d2] => { results := [.lit (.bool false)], args := [d1, d2] }
  | _ => none }
def FnRefusedByIDNANeverNilWrongFormAsk : Prop := fnRefusedByIDNANeverNilRow.holds Tryf.pinned (OpenSpec.ofChange fnRefusedByIDNANeverNilWrong)

end Rows
end Go.Proofs.Qxb6612969aFmt
