/-
  No cell of these rows narrows 'for every input' (looked for: loops, veiled, ifaces, maps, wideKeys, modest, calm, conditions, laid).
  DERIVED. THE GIVEN ROWS OF THIS SEAT. 1 by the template 'for every input the law returns true; each argument reads behind the call as it read before'; 0 by the template 'total and deterministic' (their statements: YbulkcakoTotals.lean).
  GIVEN WITH THE SEED: the statements are not yours to turn. If you find one false, say at which input.
  Laid BY PROGRAM, IN A SANDBOX (cutbox-rows.mjs): the forced cells as the released guide's own fill.sh prints them over the translation 0537a4efc28f6788… (all of the seat's roots in one cut). By AI agents, Wed Nov 11 2026. No macro, syntax, notation, axiom, sorry.
-/
import Derived.Test.YbulkcakoChecked
import GoSem.Claim
import GoSem.ClaimJoined
import GoSem.ClaimMapViews
import Derived.JoinedTies
import Derived.KernelRfl
namespace Go.Proofs.Ybulkcako
/- THE CELL 'sum', in the pinned program and in every row, IS THE sha256 OF THE DUMP (.gsa) THAT YbulkcakoProg.lean LOADS. Nothing in Lean hashes anything: it is a label: what it is worth is what the hold of that sum in a sandbox is worth. -/
noncomputable def Yba.pinned : Pinned := { name := "ybulkcako", sum := "0537a4efc28f67884b5498fed3e9925453d4bf61a0a6dd6ff64579a1b873f336", checked := Yba.checked }
namespace Rows
def none {H : Type} : Left H := { results := [], args := [] }

/-- 'chronolith.LawS3836AExact': WHATEVER THE INPUT: true; the input reads as it did. -/
def lawS3836AExactSpec : ChangeSpec := { name := "lawS3836AExact", fn := fun _ => fun
  | [d1, d2, d3] => { results := [.lit (.bool true)], args := [d1, d2, d3] }
  | _ => none }
def lawS3836AExactRow : OpenClaim := { program := "ybulkcako", sum := "0537a4efc28f67884b5498fed3e9925453d4bf61a0a6dd6ff64579a1b873f336", func := "example.com/chronolith/chronolith.LawS3836AExact", spec := "lawS3836AExact", apart := false }
def LawS3836AExactSaid : Prop := lawS3836AExactRow.holds Yba.pinned (OpenSpec.ofChange lawS3836AExactSpec)

/-- ITS FALSE NEIGHBOUR: 'it returns false'. Refute it at one input. -/
def lawS3836AExactWrong : ChangeSpec := { name := "lawS3836AExact", fn := fun _ => fun
  | [d1, d2, d3] => { results := [.lit (.bool false)], args := [d1, d2, d3] }
  | _ => none }
def LawS3836AExactWrongFalsely : Prop := lawS3836AExactRow.holds Yba.pinned (OpenSpec.ofChange lawS3836AExactWrong)

end Rows
end Go.Proofs.Ybulkcako
