/-
  DERIVED. GIVEN WITH THE SEED: THE CARDS: each row of Qxb6612969aFmtRows.lean that lists a variable, with what it lists TIED to the program's text (the seventh form; the later family's looks); each row that meets fmt, with fmt's text TOLD by the authors' own Lean function (tested against real Go, not proved from fmt's source: count such statements apart). THE CARD IS WHAT COUNTS. Prove the row's statement (the work); the ties are given (Qxb6612969aFmtTie.lean); close each card by the builder's one call (the guide's Derived/Test/ToyasCard.lean, 'card_holds'). Laid BY PROGRAM, IN A SANDBOX (cutbox-door.mjs). By AI agents, Wed Nov 11 2026. No macro, syntax, notation, axiom, sorry.
-/
import Derived.Test.Qxb6612969aFmtRows
import GoSem.ClaimSeven
namespace Go.Proofs.Qxb6612969aFmt
namespace Rows

/-- THE TOLD CARD OF 'zzlaws_bootstrap_b1.FnRefusedByIDNANeverNil'. -/
def fnRefusedByIDNANeverNilCard : Claim7 := { stood := { row := fnRefusedByIDNANeverNilRow, standIns := [], harness := (true, "271fbaae0571681cb51b89ca6a5cffb616d705e089d313dafb156f16b23b6532"), looks := false }, told := true, goes := false }
def FnRefusedByIDNANeverNilToldSaid : Prop := Claim7.holds Tryf.pinned (.plain (OpenSpec.ofChange fnRefusedByIDNANeverNilSpec)) fnRefusedByIDNANeverNilCard
/-- ITS FALSE NEIGHBOUR. Refute it at one input. -/
def FnRefusedByIDNANeverNilToldWrongFalsely : Prop := Claim7.holds Tryf.pinned (.plain (OpenSpec.ofChange fnRefusedByIDNANeverNilWrong)) fnRefusedByIDNANeverNilCard
end Rows
end Go.Proofs.Qxb6612969aFmt
