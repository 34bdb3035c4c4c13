/-
  No cell of these rows narrows 'for every input' (looked for: loops, veiled, ifaces, maps, wideKeys, modest, calm, conditions, laid).
  DERIVED. THE GIVEN ROWS OF THIS SEAT. 2 by the template 'for every input the law returns true; each argument reads behind the call as it read before'; 0 by the template 'total and deterministic' (their statements: YbulkcahiTotals.lean).
  GIVEN WITH THE SEED: the statements are not yours to turn. If you find one false, say at which input.
  Laid BY PROGRAM, IN A SANDBOX (cutbox-rows.mjs): the forced cells as the released guide's own fill.sh prints them over the translation 8f23d5f18ba19f3e… (all of the seat's roots in one cut). By AI agents, Wed Nov 11 2026. No macro, syntax, notation, axiom, sorry.
-/
import Derived.Test.YbulkcahiChecked
import GoSem.Claim
import GoSem.ClaimJoined
import GoSem.ClaimMapViews
import Derived.JoinedTies
import Derived.KernelRfl
namespace Go.Proofs.Ybulkcahi
/- THE CELL 'sum', in the pinned program and in every row, IS THE sha256 OF THE DUMP (.gsa) THAT YbulkcahiProg.lean LOADS. Nothing in Lean hashes anything: it is a label: what it is worth is what the hold of that sum in a sandbox is worth. -/
noncomputable def Yba.pinned : Pinned := { name := "ybulkcahi", sum := "8f23d5f18ba19f3e1ada902ba3eff1f3783c495f9b255f5650f9c9f7168633b8", checked := Yba.checked }
namespace Rows
def none {H : Type} : Left H := { results := [], args := [] }

/-- 'sim.LawS3830AModel': WHATEVER THE INPUT: true; the input reads as it did. -/
def lawS3830AModelSpec : ChangeSpec := { name := "lawS3830AModel", fn := fun _ => fun
  | [d1, d2] => { results := [.lit (.bool true)], args := [d1, d2] }
  | _ => none }
def lawS3830AModelRow : OpenClaim := { program := "ybulkcahi", sum := "8f23d5f18ba19f3e1ada902ba3eff1f3783c495f9b255f5650f9c9f7168633b8", func := "example.com/axiomesh/axiomesh/internal/sim.LawS3830AModel", spec := "lawS3830AModel", apart := false }
def LawS3830AModelSaid : Prop := lawS3830AModelRow.holds Yba.pinned (OpenSpec.ofChange lawS3830AModelSpec)

/-- ITS FALSE NEIGHBOUR: 'it returns false'. Refute it at one input. -/
def lawS3830AModelWrong : ChangeSpec := { name := "lawS3830AModel", fn := fun _ => fun
  | [d1, d2] => { results := [.lit (.bool false)], args := [d1, d2] }
  | _ => none }
def LawS3830AModelWrongFalsely : Prop := lawS3830AModelRow.holds Yba.pinned (OpenSpec.ofChange lawS3830AModelWrong)

/-- 'sim.LawS3830ARoundTrip': WHATEVER THE INPUT: true; the input reads as it did. -/
def lawS3830ARoundTripSpec : ChangeSpec := { name := "lawS3830ARoundTrip", fn := fun _ => fun
  | [d1, d2, d3] => { results := [.lit (.bool true)], args := [d1, d2, d3] }
  | _ => none }
def lawS3830ARoundTripRow : OpenClaim := { program := "ybulkcahi", sum := "8f23d5f18ba19f3e1ada902ba3eff1f3783c495f9b255f5650f9c9f7168633b8", func := "example.com/axiomesh/axiomesh/internal/sim.LawS3830ARoundTrip", spec := "lawS3830ARoundTrip", apart := false }
def LawS3830ARoundTripSaid : Prop := lawS3830ARoundTripRow.holds Yba.pinned (OpenSpec.ofChange lawS3830ARoundTripSpec)

/-- ITS FALSE NEIGHBOUR: 'it returns false'. Refute it at one input. -/
def lawS3830ARoundTripWrong : ChangeSpec := { name := "lawS3830ARoundTrip", fn := fun _ => fun
  | [d1, d2, d3] => { results := [.lit (.bool false)], args := [d1, d2, d3] }
  | _ => none }
def LawS3830ARoundTripWrongFalsely : Prop := lawS3830ARoundTripRow.holds Yba.pinned (OpenSpec.ofChange lawS3830ARoundTripWrong)

end Rows
end Go.Proofs.Ybulkcahi
