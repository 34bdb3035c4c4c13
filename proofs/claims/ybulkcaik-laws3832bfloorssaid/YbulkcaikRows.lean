/-
  No cell of these rows narrows 'for every input' (looked for: loops, veiled, ifaces, maps, wideKeys, modest, calm, conditions, laid).
  DERIVED. THE GIVEN ROWS OF THIS SEAT. 4 by the template 'for every input the law returns true; each argument reads behind the call as it read before'; 0 by the template 'total and deterministic' (their statements: YbulkcaikTotals.lean).
  GIVEN WITH THE SEED: the statements are not yours to turn. If you find one false, say at which input.
  Laid BY PROGRAM, IN A SANDBOX (cutbox-rows.mjs): the forced cells as the released guide's own fill.sh prints them over the translation 225c4a5e75511939… (all of the seat's roots in one cut). By AI agents, Wed Nov 11 2026. No macro, syntax, notation, axiom, sorry.
-/
import Derived.Test.YbulkcaikChecked
import GoSem.Claim
import GoSem.ClaimJoined
import GoSem.ClaimMapViews
import Derived.JoinedTies
import Derived.KernelRfl
namespace Go.Proofs.Ybulkcaik
/- THE CELL 'sum', in the pinned program and in every row, IS THE sha256 OF THE DUMP (.gsa) THAT YbulkcaikProg.lean LOADS. Nothing in Lean hashes anything: it is a label: what it is worth is what the hold of that sum in a sandbox is worth. -/
noncomputable def Yba.pinned : Pinned := { name := "ybulkcaik", sum := "225c4a5e7551193970b0f7d3cef8282d165a082de81c086e95399a55c4745d6b", checked := Yba.checked }
namespace Rows
def none {H : Type} : Left H := { results := [], args := [] }

/-- 'site.LawS3832AStop': WHATEVER THE INPUT: true; the input reads as it did. -/
def lawS3832AStopSpec : ChangeSpec := { name := "lawS3832AStop", fn := fun _ => fun
  | [d1, d2, d3] => { results := [.lit (.bool true)], args := [d1, d2, d3] }
  | _ => none }
def lawS3832AStopRow : OpenClaim := { program := "ybulkcaik", sum := "225c4a5e7551193970b0f7d3cef8282d165a082de81c086e95399a55c4745d6b", func := "example.com/lockstep/lockstep/pkg/site.LawS3832AStop", spec := "lawS3832AStop", plainKeys := false, apart := false }
def LawS3832AStopSaid : Prop := lawS3832AStopRow.holds Yba.pinned (OpenSpec.ofChange lawS3832AStopSpec)

/-- ITS FALSE NEIGHBOUR: 'it returns false'. Refute it at one input. -/
def lawS3832AStopWrong : ChangeSpec := { name := "lawS3832AStop", fn := fun _ => fun
  | [d1, d2, d3] => { results := [.lit (.bool false)], args := [d1, d2, d3] }
  | _ => none }
def LawS3832AStopWrongFalsely : Prop := lawS3832AStopRow.holds Yba.pinned (OpenSpec.ofChange lawS3832AStopWrong)

/-- 'order.LawS3832BRaise': WHATEVER THE INPUT: true; the input reads as it did. -/
def lawS3832BRaiseSpec : ChangeSpec := { name := "lawS3832BRaise", fn := fun _ => fun
  | [d1, d2, d3, d4] => { results := [.lit (.bool true)], args := [d1, d2, d3, d4] }
  | _ => none }
def lawS3832BRaiseRow : OpenClaim := { program := "ybulkcaik", sum := "225c4a5e7551193970b0f7d3cef8282d165a082de81c086e95399a55c4745d6b", func := "example.com/lockstep/lockstep/pkg/order.LawS3832BRaise", spec := "lawS3832BRaise", plainKeys := false, apart := false }
def LawS3832BRaiseSaid : Prop := lawS3832BRaiseRow.holds Yba.pinned (OpenSpec.ofChange lawS3832BRaiseSpec)

/-- ITS FALSE NEIGHBOUR: 'it returns false'. Refute it at one input. -/
def lawS3832BRaiseWrong : ChangeSpec := { name := "lawS3832BRaise", fn := fun _ => fun
  | [d1, d2, d3, d4] => { results := [.lit (.bool false)], args := [d1, d2, d3, d4] }
  | _ => none }
def LawS3832BRaiseWrongFalsely : Prop := lawS3832BRaiseRow.holds Yba.pinned (OpenSpec.ofChange lawS3832BRaiseWrong)

/-- 'order.LawS3832BFloors': WHATEVER THE INPUT: true; the input reads as it did. -/
def lawS3832BFloorsSpec : ChangeSpec := { name := "lawS3832BFloors", fn := fun _ => fun
  | [d1, d2, d3, d4, d5] => { results := [.lit (.bool true)], args := [d1, d2, d3, d4, d5] }
  | _ => none }
def lawS3832BFloorsRow : OpenClaim := { program := "ybulkcaik", sum := "225c4a5e7551193970b0f7d3cef8282d165a082de81c086e95399a55c4745d6b", func := "example.com/lockstep/lockstep/pkg/order.LawS3832BFloors", spec := "lawS3832BFloors", plainKeys := false, apart := false }
def LawS3832BFloorsSaid : Prop := lawS3832BFloorsRow.holds Yba.pinned (OpenSpec.ofChange lawS3832BFloorsSpec)

/-- ITS FALSE NEIGHBOUR: 'it returns false'. Refute it at one input. -/
def lawS3832BFloorsWrong : ChangeSpec := { name := "lawS3832BFloors", fn := fun _ => fun
  | [d1, d2, d3, d4, d5] => { results := [.lit (.bool false)], args := [d1, d2, d3, d4, d5] }
  | _ => none }
def LawS3832BFloorsWrongFalsely : Prop := lawS3832BFloorsRow.holds Yba.pinned (OpenSpec.ofChange lawS3832BFloorsWrong)

/-- 'site.LawS3832CPast': WHATEVER THE INPUT: true; the input reads as it did. -/
def lawS3832CPastSpec : ChangeSpec := { name := "lawS3832CPast", fn := fun _ => fun
  | [d1, d2, d3] => { results := [.lit (.bool true)], args := [d1, d2, d3] }
  | _ => none }
def lawS3832CPastRow : OpenClaim := { program := "ybulkcaik", sum := "225c4a5e7551193970b0f7d3cef8282d165a082de81c086e95399a55c4745d6b", func := "example.com/lockstep/lockstep/pkg/site.LawS3832CPast", spec := "lawS3832CPast", plainKeys := false, apart := false }
def LawS3832CPastSaid : Prop := lawS3832CPastRow.holds Yba.pinned (OpenSpec.ofChange lawS3832CPastSpec)

/-- ITS FALSE NEIGHBOUR: 'it returns false'. Refute it at one input. -/
def lawS3832CPastWrong : ChangeSpec := { name := "lawS3832CPast", fn := fun _ => fun
  | [d1, d2, d3] => { results := [.lit (.bool false)], args := [d1, d2, d3] }
  | _ => none }
def LawS3832CPastWrongFalsely : Prop := lawS3832CPastRow.holds Yba.pinned (OpenSpec.ofChange lawS3832CPastWrong)

end Rows
end Go.Proofs.Ybulkcaik
