/-
  DERIVED. GIVEN WITH THE SEED: THE CARDS: each row of YbulkcahwDoorRows.lean that lists a variable, with what it lists TIED to the program's text (the seventh form; the later family's looks); each row that meets fmt, with fmt's text TOLD by the authors' own Lean function (tested against real Go, not proved from fmt's source: count such statements apart). THE CARD IS WHAT COUNTS. Prove the row's statement (the work); the ties are given (YbulkcahwDoorTie.lean); close each card by the builder's one call (the guide's Derived/Test/ToyasCard.lean, 'card_holds'). Laid BY PROGRAM, IN A SANDBOX (cutbox-door.mjs). By AI agents, Wed Nov 11 2026. No macro, syntax, notation, axiom, sorry.
-/
import Derived.Test.YbulkcahwDoorRows
import GoSem.ClaimSeven
namespace Go.Proofs.YbulkcahwDoor
namespace Rows

/-- THE TIED CARD OF 'holdfast.LawS3831AHandOver'. -/
def lawS3831AHandOverCard : Claim7 := { stood := { row := lawS3831AHandOverRow, standIns := [], harness := (true, "6e467661cd23374a7710a4ee101ca85f833a1d77020162d67d2521669f21129e"), looks := false }, kinds := [], alts := [], laidByText := true, laidKinds := [.data], laidTests := true, laidLooks := .later }
def LawS3831AHandOverCardSaid : Prop := Claim7.holds Ybad.pinned (.plain (OpenSpec.ofChange lawS3831AHandOverSpec)) lawS3831AHandOverCard
end Rows
end Go.Proofs.YbulkcahwDoor
