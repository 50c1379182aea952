/-
  DERIVED. GIVEN WITH THE SEED: THE CARDS: each row of Qxb6609468aDoorRows.lean that lists a variable, with what it lists TIED to the program's text (the seventh form; the later family's looks); each row that meets fmt, with fmt's text TOLD by the authors' own Lean function (tested against real Go, not proved from fmt's source: count such statements apart). THE CARD IS WHAT COUNTS. Prove the row's statement (the work); the ties are given (Qxb6609468aDoorTie.lean); close each card by the builder's one call (the guide's Derived/Test/ToyasCard.lean, 'card_holds'). Laid BY PROGRAM, IN A SANDBOX (cutbox-door.mjs). By AI agents, Wed Nov 11 2026. No macro, syntax, notation, axiom, sorry.
-/
import Derived.Test.Qxb6609468aDoorRows
import GoSem.ClaimSeven
namespace Go.Proofs.Qxb6609468aDoor
namespace Rows

/-- THE TIED CARD OF 'zzlaws_internal_wire_b1.FnIsRequestTable'. -/
def fnIsRequestTableCard : Claim7 := { stood := { row := fnIsRequestTableRow, standIns := [], harness := (true, "2b9eab6609fc54b471353899c734a0e46920675862e71a60ca02cddc3cefdfd0"), looks := false }, kinds := [], alts := [], laidByText := true, laidKinds := [.mapped], laidTests := true, laidLooks := .later }
def FnIsRequestTableCardSaid : Prop := Claim7.holds Tryd.pinned (.plain (OpenSpec.ofChange fnIsRequestTableSpec)) fnIsRequestTableCard
end Rows
end Go.Proofs.Qxb6609468aDoor
