/-
  No cell of these rows narrows 'for every input' (looked for: loops, veiled, ifaces, maps, wideKeys, modest, calm, conditions, laid).
  DERIVED. THE GIVEN ROWS OF THIS SEAT. 2 by the template 'for every input the law returns true; each argument reads behind the call as it read before'; 0 by the template 'total and deterministic' (their statements: YbulkaheaTotals.lean).
  GIVEN WITH THE SEED: the statements are not yours to turn. If you find one false, say at which input.
  Laid BY PROGRAM, IN A SANDBOX (cutbox-rows.mjs): the forced cells as the released guide's own fill.sh prints them over the translation 3878e05cdab641d3… (all of the seat's roots in one cut). By AI agents, Wed Nov 11 2026. No macro, syntax, notation, axiom, sorry.
-/
import Derived.Test.YbulkaheaChecked
import GoSem.Claim
import GoSem.ClaimJoined
import GoSem.ClaimMapViews
import Derived.JoinedTies
import Derived.KernelRfl
namespace Go.Proofs.Ybulkahea
/- THE CELL 'sum', in the pinned program and in every row, IS THE sha256 OF THE DUMP (.gsa) THAT YbulkaheaProg.lean LOADS. Nothing in Lean hashes anything: it is a label: what it is worth is what the hold of that sum in a sandbox is worth. -/
noncomputable def Yba.pinned : Pinned := { name := "ybulkahea", sum := "3878e05cdab641d366425feca50a9d0e352cbacda5250507dd2e61077885127a", checked := Yba.checked }
namespace Rows
def none {H : Type} : Left H := { results := [], args := [] }

/-- 'server.LawS1651BSplit': WHATEVER THE INPUT: true; the input reads as it did. -/
def lawS1651BSplitSpec : ChangeSpec := { name := "lawS1651BSplit", fn := fun _ => fun
  | [d] => { results := [.lit (.bool true)], args := [d] }
  | _ => none }
def lawS1651BSplitRow : OpenClaim := { program := "ybulkahea", sum := "3878e05cdab641d366425feca50a9d0e352cbacda5250507dd2e61077885127a", func := "example.com/waypost/waypost/pkg/server.LawS1651BSplit", spec := "lawS1651BSplit", inPlace := ["internal/bytealg.IndexByteString"], apart := false }
def LawS1651BSplitSaid : Prop := lawS1651BSplitRow.holds Yba.pinned (OpenSpec.ofChange lawS1651BSplitSpec)

/-- ITS FALSE NEIGHBOUR: 'it returns false'. Refute it at one input. -/
def lawS1651BSplitWrong : ChangeSpec := { name := "lawS1651BSplit", fn := fun _ => fun
  | [d] => { results := [.lit (.bool false)], args := [d] }
  | _ => none }
def LawS1651BSplitWrongFalsely : Prop := lawS1651BSplitRow.holds Yba.pinned (OpenSpec.ofChange lawS1651BSplitWrong)

/-- 'server.LawS1651CBody': WHATEVER THE INPUT: true; the input reads as it did. -/
def lawS1651CBodySpec : ChangeSpec := { name := "lawS1651CBody", fn := fun _ => fun
  | [d] => { results := [.lit (.bool true)], args := [d] }
  | _ => none }
def lawS1651CBodyRow : OpenClaim := { program := "ybulkahea", sum := "3878e05cdab641d366425feca50a9d0e352cbacda5250507dd2e61077885127a", func := "example.com/waypost/waypost/pkg/server.LawS1651CBody", spec := "lawS1651CBody", apart := false }
def LawS1651CBodySaid : Prop := lawS1651CBodyRow.holds Yba.pinned (OpenSpec.ofChange lawS1651CBodySpec)

/-- ITS FALSE NEIGHBOUR: 'it returns false'. Refute it at one input. -/
def lawS1651CBodyWrong : ChangeSpec := { name := "lawS1651CBody", fn := fun _ => fun
  | [d] => { results := [.lit (.bool false)], args := [d] }
  | _ => none }
def LawS1651CBodyWrongFalsely : Prop := lawS1651CBodyRow.holds Yba.pinned (OpenSpec.ofChange lawS1651CBodyWrong)

end Rows
end Go.Proofs.Ybulkahea
