/-
  No cell of these rows narrows 'for every input' (looked for: loops, veiled, ifaces, maps, wideKeys, modest, calm, conditions, laid).
  DERIVED. THE GIVEN ROWS OF THIS SEAT. 2 by the template 'for every input the law returns true; each argument reads behind the call as it read before'; 0 by the template 'total and deterministic' (their statements: YbulkahbiTotals.lean).
  GIVEN WITH THE SEED: the statements are not yours to turn. If you find one false, say at which input.
  Laid BY PROGRAM, IN A SANDBOX (cutbox-rows.mjs): the forced cells as the released guide's own fill.sh prints them over the translation 0436f35d626d47fe… (all of the seat's roots in one cut). By AI agents, Wed Nov 11 2026. No macro, syntax, notation, axiom, sorry.
-/
import Derived.Test.YbulkahbiChecked
import GoSem.Claim
import GoSem.ClaimJoined
import GoSem.ClaimMapViews
import Derived.JoinedTies
import Derived.KernelRfl
namespace Go.Proofs.Ybulkahbi
/- THE CELL 'sum', in the pinned program and in every row, IS THE sha256 OF THE DUMP (.gsa) THAT YbulkahbiProg.lean LOADS. Nothing in Lean hashes anything: it is a label: what it is worth is what the hold of that sum in a sandbox is worth. -/
noncomputable def Yba.pinned : Pinned := { name := "ybulkahbi", sum := "0436f35d626d47fea5fbc2146ee64beb54b5669ea5cb543fca105878719689e1", checked := Yba.checked }
namespace Rows
def none {H : Type} : Left H := { results := [], args := [] }

/-- 'protocol.LawS1646BRoundTrip': WHATEVER THE INPUT: true; the input reads as it did. -/
def lawS1646BRoundTripSpec : ChangeSpec := { name := "lawS1646BRoundTrip", fn := fun _ => fun
  | [d] => { results := [.lit (.bool true)], args := [d] }
  | _ => none }
def lawS1646BRoundTripRow : OpenClaim := { program := "ybulkahbi", sum := "0436f35d626d47fea5fbc2146ee64beb54b5669ea5cb543fca105878719689e1", func := "example.com/kindred/kindred/protocol.LawS1646BRoundTrip", spec := "lawS1646BRoundTrip", apart := false }
def LawS1646BRoundTripSaid : Prop := lawS1646BRoundTripRow.holds Yba.pinned (OpenSpec.ofChange lawS1646BRoundTripSpec)

/-- ITS FALSE NEIGHBOUR: 'it returns false'. Refute it at one input. -/
def lawS1646BRoundTripWrong : ChangeSpec := { name := "lawS1646BRoundTrip", fn := fun _ => fun
  | [d] => { results := [.lit (.bool false)], args := [d] }
  | _ => none }
def LawS1646BRoundTripWrongFalsely : Prop := lawS1646BRoundTripRow.holds Yba.pinned (OpenSpec.ofChange lawS1646BRoundTripWrong)

/-- 'protocol.LawS1646BInjective': WHATEVER THE INPUT: true; the input reads as it did. -/
def lawS1646BInjectiveSpec : ChangeSpec := { name := "lawS1646BInjective", fn := fun _ => fun
  | [d1, d2] => { results := [.lit (.bool true)], args := [d1, d2] }
  | _ => none }
def lawS1646BInjectiveRow : OpenClaim := { program := "ybulkahbi", sum := "0436f35d626d47fea5fbc2146ee64beb54b5669ea5cb543fca105878719689e1", func := "example.com/kindred/kindred/protocol.LawS1646BInjective", spec := "lawS1646BInjective", apart := false }
def LawS1646BInjectiveSaid : Prop := lawS1646BInjectiveRow.holds Yba.pinned (OpenSpec.ofChange lawS1646BInjectiveSpec)

/-- ITS FALSE NEIGHBOUR: 'it returns false'. Refute it at one input. -/
def lawS1646BInjectiveWrong : ChangeSpec := { name := "lawS1646BInjective", fn := fun _ => fun
  | [d1, d2] => { results := [.lit (.bool false)], args := [d1, d2] }
  | _ => none }
def LawS1646BInjectiveWrongFalsely : Prop := lawS1646BInjectiveRow.holds Yba.pinned (OpenSpec.ofChange lawS1646BInjectiveWrong)

end Rows
end Go.Proofs.Ybulkahbi
