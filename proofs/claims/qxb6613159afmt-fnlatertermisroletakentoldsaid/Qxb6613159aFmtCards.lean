/-
  DERIVED. GIVEN WITH THE SEED: THE CARDS: each row of Qxb6613159aFmtRows.lean that lists a variable, with what it lists TIED to the program's text (the seventh form; the later family's looks); each row that meets fmt, with fmt's text TOLD by the authors' own Lean function (tested against real Go, not proved from fmt's source: count such statements apart). THE CARD IS WHAT COUNTS. Prove the row's statement (the work); the ties are given (Qxb6613159aFmtTie.lean); close each card by the builder's one call (the guide's Derived/Test/ToyasCard.lean, 'card_holds'). Laid BY PROGRAM, IN A SANDBOX (cutbox-door.mjs). By AI agents, Wed Nov 11 2026. No macro, syntax, notation, axiom, sorry.
-/
import Derived.Test.Qxb6613159aFmtRows
import GoSem.ClaimSeven
namespace Go.Proofs.Qxb6613159aFmt
namespace Rows

/-- THE TOLD AND TIED CARD OF 'zzlaws_root_b1.FnLaterTermIsRoleTaken'. -/
def fnLaterTermIsRoleTakenCard : Claim7 := { stood := { row := fnLaterTermIsRoleTakenRow, standIns := [], harness := (true, "2121d41c3d5ef78d5f1c6e954bce4fa51328483b33fdd382ec21e608380269d7"), looks := true }, told := true, laidByText := true, laidKinds := [.sentinel], laidTests := true, laidLooks := .later, goes := false }
def FnLaterTermIsRoleTakenToldSaid : Prop := Claim7.holds Tryf.pinned (.plain (OpenSpec.ofChange fnLaterTermIsRoleTakenSpec)) fnLaterTermIsRoleTakenCard
/-- ITS FALSE NEIGHBOUR. Refute it at one input. -/
def FnLaterTermIsRoleTakenToldWrongFalsely : Prop := Claim7.holds Tryf.pinned (.plain (OpenSpec.ofChange fnLaterTermIsRoleTakenWrong)) fnLaterTermIsRoleTakenCard
end Rows
end Go.Proofs.Qxb6613159aFmt
