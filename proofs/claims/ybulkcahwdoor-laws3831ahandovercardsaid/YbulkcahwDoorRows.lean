/-
  NARROWER THAN 'FOR EVERY INPUT', by the rows' own cells (each row's printed sentence says how): LawS3831AHandOver: laid.
  DERIVED. THE GIVEN ROWS OF THIS SEAT. 1 by the template 'for every input the law returns true; each argument reads behind the call as it read before'; 0 by the template 'total and deterministic' (their statements: YbulkcahwDoorTotals.lean).
  GIVEN WITH THE SEED: the statements are not yours to turn. If you find one false, say at which input.
  Laid BY PROGRAM, IN A SANDBOX (cutbox-rows.mjs): the forced cells as the released guide's own fill.sh prints them over the translation 2177b636b64d9870… (all of the seat's roots in one cut). By AI agents, Wed Nov 11 2026. No macro, syntax, notation, axiom, sorry.
-/
import Derived.Test.YbulkcahwDoorChecked
import GoSem.Claim
import GoSem.ClaimJoined
import GoSem.ClaimMapViews
import Derived.JoinedTies
import Derived.KernelRfl
namespace Go.Proofs.YbulkcahwDoor
/- THE CELL 'sum', in the pinned program and in every row, IS THE sha256 OF THE DUMP (.gsa) THAT YbulkcahwDoorProg.lean LOADS. Nothing in Lean hashes anything: it is a label: what it is worth is what the hold of that sum in a sandbox is worth. -/
noncomputable def Ybad.pinned : Pinned := { name := "ybulkcahwdoor", sum := "2177b636b64d98704ccec797cc4958f408390c5326dbe42a8f0a8e85947654e3", checked := Ybad.checked }
namespace Rows
def none {H : Type} : Left H := { results := [], args := [] }

/- WHAT THE LISTED PACKAGE-LEVEL VARIABLES READ AS WHEN THE CALL BEGINS. Each datum BY PROGRAM (the guide's laid-datum.mjs) off the statement by which the dump's own 'gosem.cut.vars' lays the variable. In a bare row this is a premise. The card (YbulkcahwDoorCards.lean) ties it to the program's text. -/
def laid_example_com_holdfast_holdfast_compatible {H : Type} : DataW H := .agg [.agg [.lit (.bool false), .lit (.bool false), .lit (.bool false), .lit (.bool false), .lit (.bool false), .lit (.bool false)], .agg [.lit (.bool false), .lit (.bool true), .lit (.bool true), .lit (.bool true), .lit (.bool true), .lit (.bool false)], .agg [.lit (.bool false), .lit (.bool true), .lit (.bool true), .lit (.bool false), .lit (.bool false), .lit (.bool false)], .agg [.lit (.bool false), .lit (.bool true), .lit (.bool false), .lit (.bool true), .lit (.bool false), .lit (.bool false)], .agg [.lit (.bool false), .lit (.bool true), .lit (.bool false), .lit (.bool false), .lit (.bool false), .lit (.bool false)], .agg [.lit (.bool false), .lit (.bool false), .lit (.bool false), .lit (.bool false), .lit (.bool false), .lit (.bool false)]]

/-- 'holdfast.LawS3831AHandOver': WHATEVER THE INPUT: true; the input reads as it did. -/
def lawS3831AHandOverSpec : ChangeSpec := { name := "lawS3831AHandOver", vars := ["example.com/holdfast/holdfast.compatible"], fn := fun _ => fun
  | [d1, d2, d3, d4, d5, d6, d7, d8, d9, d10, d11, g1] => { results := [.lit (.bool true)], args := [d1, d2, d3, d4, d5, d6, d7, d8, d9, d10, d11], vars := [g1] }
  | _ => none }
def lawS3831AHandOverRow : OpenClaim := { program := "ybulkcahwdoor", sum := "2177b636b64d98704ccec797cc4958f408390c5326dbe42a8f0a8e85947654e3", func := "example.com/holdfast/holdfast.LawS3831AHandOver", spec := "lawS3831AHandOver", named := ["example.com/holdfast/holdfast.compatible"], apart := false, laid := [("example.com/holdfast/holdfast.compatible", laid_example_com_holdfast_holdfast_compatible)] }
def LawS3831AHandOverSaid : Prop := lawS3831AHandOverRow.holds Ybad.pinned (OpenSpec.ofChange lawS3831AHandOverSpec)

/-- ITS FALSE NEIGHBOUR: 'it returns false'. Refute it at one input. -/
def lawS3831AHandOverWrong : ChangeSpec := { name := "lawS3831AHandOver", vars := ["example.com/holdfast/holdfast.compatible"], fn := fun _ => fun
  | [d1, d2, d3, d4, d5, d6, d7, d8, d9, d10, d11, g1] => { results := [.lit (.bool false)], args := [d1, d2, d3, d4, d5, d6, d7, d8, d9, d10, d11], vars := [g1] }
  | _ => none }
def LawS3831AHandOverWrongFalsely : Prop := lawS3831AHandOverRow.holds Ybad.pinned (OpenSpec.ofChange lawS3831AHandOverWrong)

end Rows
end Go.Proofs.YbulkcahwDoor
