/-
  No cell of these rows narrows 'for every input' (looked for: loops, veiled, ifaces, maps, wideKeys, modest, calm, conditions, laid).
  DERIVED. THE GIVEN ROWS OF THIS SEAT. 5 by the template 'for every input the law returns true; each argument reads behind the call as it read before'; 0 by the template 'total and deterministic' (their statements: YbulkahbwTotals.lean).
  GIVEN WITH THE SEED: the statements are not yours to turn. If you find one false, say at which input.
  Laid BY PROGRAM, IN A SANDBOX (cutbox-rows.mjs): the forced cells as the released guide's own fill.sh prints them over the translation 123f64808c950663… (all of the seat's roots in one cut). By AI agents, Wed Nov 11 2026. No macro, syntax, notation, axiom, sorry.
-/
import Derived.Test.YbulkahbwChecked
import GoSem.Claim
import GoSem.ClaimJoined
import GoSem.ClaimMapViews
import Derived.JoinedTies
import Derived.KernelRfl
namespace Go.Proofs.Ybulkahbw
/- THE CELL 'sum', in the pinned program and in every row, IS THE sha256 OF THE DUMP (.gsa) THAT YbulkahbwProg.lean LOADS. Nothing in Lean hashes anything: it is a label: what it is worth is what the hold of that sum in a sandbox is worth. -/
noncomputable def Yba.pinned : Pinned := { name := "ybulkahbw", sum := "123f64808c950663715132de4b9e02f2975c66b97b9fa9328efbc597fb3e32cb", checked := Yba.checked }
namespace Rows
def none {H : Type} : Left H := { results := [], args := [] }

/-- 'attack.LawS1647AFrames': WHATEVER THE INPUT: true; the input reads as it did. -/
def lawS1647AFramesSpec : ChangeSpec := { name := "lawS1647AFrames", fn := fun _ => fun
  | [d1, d2, d3] => { results := [.lit (.bool true)], args := [d1, d2, d3] }
  | _ => none }
def lawS1647AFramesRow : OpenClaim := { program := "ybulkahbw", sum := "123f64808c950663715132de4b9e02f2975c66b97b9fa9328efbc597fb3e32cb", func := "example.com/synodos/synodos/attack.LawS1647AFrames", spec := "lawS1647AFrames", plainKeys := false, apart := false }
def LawS1647AFramesSaid : Prop := lawS1647AFramesRow.holds Yba.pinned (OpenSpec.ofChange lawS1647AFramesSpec)

/-- ITS FALSE NEIGHBOUR: 'it returns false'. Refute it at one input. -/
def lawS1647AFramesWrong : ChangeSpec := { name := "lawS1647AFrames", fn := fun _ => fun
  | [d1, d2, d3] => { results := [.lit (.bool false)], args := [d1, d2, d3] }
  | _ => none }
def LawS1647AFramesWrongFalsely : Prop := lawS1647AFramesRow.holds Yba.pinned (OpenSpec.ofChange lawS1647AFramesWrong)

/-- 'scenario.LawS1647BOrder': WHATEVER THE INPUT: true; the input reads as it did. -/
def lawS1647BOrderSpec : ChangeSpec := { name := "lawS1647BOrder", fn := fun _ => fun
  | [d] => { results := [.lit (.bool true)], args := [d] }
  | _ => none }
def lawS1647BOrderRow : OpenClaim := { program := "ybulkahbw", sum := "123f64808c950663715132de4b9e02f2975c66b97b9fa9328efbc597fb3e32cb", func := "example.com/synodos/synodos/scenario.LawS1647BOrder", spec := "lawS1647BOrder", unfollowed := true, recurses := true, plainKeys := false, apart := false }
def LawS1647BOrderSaid : Prop := lawS1647BOrderRow.holds Yba.pinned (OpenSpec.ofChange lawS1647BOrderSpec)

/-- ITS FALSE NEIGHBOUR: 'it returns false'. Refute it at one input. -/
def lawS1647BOrderWrong : ChangeSpec := { name := "lawS1647BOrder", fn := fun _ => fun
  | [d] => { results := [.lit (.bool false)], args := [d] }
  | _ => none }
def LawS1647BOrderWrongFalsely : Prop := lawS1647BOrderRow.holds Yba.pinned (OpenSpec.ofChange lawS1647BOrderWrong)

/-- 'scenario.LawS1647BStop': WHATEVER THE INPUT: true; the input reads as it did. -/
def lawS1647BStopSpec : ChangeSpec := { name := "lawS1647BStop", fn := fun _ => fun
  | [d1, d2] => { results := [.lit (.bool true)], args := [d1, d2] }
  | _ => none }
def lawS1647BStopRow : OpenClaim := { program := "ybulkahbw", sum := "123f64808c950663715132de4b9e02f2975c66b97b9fa9328efbc597fb3e32cb", func := "example.com/synodos/synodos/scenario.LawS1647BStop", spec := "lawS1647BStop", unfollowed := true, recurses := true, plainKeys := false, apart := false }
def LawS1647BStopSaid : Prop := lawS1647BStopRow.holds Yba.pinned (OpenSpec.ofChange lawS1647BStopSpec)

/-- ITS FALSE NEIGHBOUR: 'it returns false'. Refute it at one input. -/
def lawS1647BStopWrong : ChangeSpec := { name := "lawS1647BStop", fn := fun _ => fun
  | [d1, d2] => { results := [.lit (.bool false)], args := [d1, d2] }
  | _ => none }
def LawS1647BStopWrongFalsely : Prop := lawS1647BStopRow.holds Yba.pinned (OpenSpec.ofChange lawS1647BStopWrong)

/-- 'engine.LawS1647CClearsAll': WHATEVER THE INPUT: true; the input reads as it did. -/
def lawS1647CClearsAllSpec : ChangeSpec := { name := "lawS1647CClearsAll", fn := fun _ => fun
  | [d1, d2] => { results := [.lit (.bool true)], args := [d1, d2] }
  | _ => none }
def lawS1647CClearsAllRow : OpenClaim := { program := "ybulkahbw", sum := "123f64808c950663715132de4b9e02f2975c66b97b9fa9328efbc597fb3e32cb", func := "example.com/synodos/synodos/engine.LawS1647CClearsAll", spec := "lawS1647CClearsAll", plainKeys := false, apart := false }
def LawS1647CClearsAllSaid : Prop := lawS1647CClearsAllRow.holds Yba.pinned (OpenSpec.ofChange lawS1647CClearsAllSpec)

/-- ITS FALSE NEIGHBOUR: 'it returns false'. Refute it at one input. -/
def lawS1647CClearsAllWrong : ChangeSpec := { name := "lawS1647CClearsAll", fn := fun _ => fun
  | [d1, d2] => { results := [.lit (.bool false)], args := [d1, d2] }
  | _ => none }
def LawS1647CClearsAllWrongFalsely : Prop := lawS1647CClearsAllRow.holds Yba.pinned (OpenSpec.ofChange lawS1647CClearsAllWrong)

/-- 'engine.LawS1647CAtAfter': WHATEVER THE INPUT: true; the input reads as it did. -/
def lawS1647CAtAfterSpec : ChangeSpec := { name := "lawS1647CAtAfter", fn := fun _ => fun
  | [d1, d2, d3, d4] => { results := [.lit (.bool true)], args := [d1, d2, d3, d4] }
  | _ => none }
def lawS1647CAtAfterRow : OpenClaim := { program := "ybulkahbw", sum := "123f64808c950663715132de4b9e02f2975c66b97b9fa9328efbc597fb3e32cb", func := "example.com/synodos/synodos/engine.LawS1647CAtAfter", spec := "lawS1647CAtAfter", plainKeys := false, apart := false }
def LawS1647CAtAfterSaid : Prop := lawS1647CAtAfterRow.holds Yba.pinned (OpenSpec.ofChange lawS1647CAtAfterSpec)

/-- ITS FALSE NEIGHBOUR: 'it returns false'. Refute it at one input. -/
def lawS1647CAtAfterWrong : ChangeSpec := { name := "lawS1647CAtAfter", fn := fun _ => fun
  | [d1, d2, d3, d4] => { results := [.lit (.bool false)], args := [d1, d2, d3, d4] }
  | _ => none }
def LawS1647CAtAfterWrongFalsely : Prop := lawS1647CAtAfterRow.holds Yba.pinned (OpenSpec.ofChange lawS1647CAtAfterWrong)

end Rows
end Go.Proofs.Ybulkahbw
