/-
  LawS3831AHandOver's STATEMENTS, taken out of the translation by a function: each is walked in a declaration of its own.
-/
import Derived.Test.YbulkcahwDoorLaid
import Derived.Test.YbulkcahwDoorOrder
namespace Go.Proofs.YbulkcahwDoor.Ho
open Go.RowKit

def dropS : Nat → Code → Code
  | 0, c => c
  | n + 1, .seq _ b => dropS n b
  | _ + 1, c => c
def headS : Code → Code
  | .seq a _ => a
  | c => c

noncomputable def rest (k : Nat) : Code := dropS k (Ybad.f3.body.getD .skip)
noncomputable def st (k : Nat) : Code := headS (rest k)

/-- What the law's body is to come to. -/
abbrev Goal (w0 : World) (B : Nat) : Exit → Act → World → Prop := bodyPost Ybad.prog Ybad.f3 fun e w' => e = .returned (.bool true) ∧ Below B w0 w'

end Go.Proofs.YbulkcahwDoor.Ho
