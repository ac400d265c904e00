/-
  No cell of these rows narrows 'for every input' (looked for: loops, veiled, ifaces, maps, wideKeys, modest, calm, conditions, laid).
  DERIVED. THE GIVEN ROWS OF THIS SEAT. 2 by the template 'for every input the law returns true; each argument reads behind the call as it read before'; 0 by the template 'total and deterministic' (their statements: YbulkwyaTotals.lean).
  GIVEN WITH THE SEED: the statements are not yours to turn. If you find one false, say at which input.
  Laid BY PROGRAM, IN A SANDBOX (cutbox-rows.mjs): the forced cells as the released guide's own fill.sh prints them over the translation d182cd7a77f5915d… (all of the seat's roots in one cut). By AI agents, Wed Nov 11 2026. No macro, syntax, notation, axiom, sorry.
-/
import Derived.Test.YbulkwyaChecked
import GoSem.Claim
import GoSem.ClaimJoined
import GoSem.ClaimMapViews
import Derived.JoinedTies
import Derived.KernelRfl
namespace Go.Proofs.Ybulkwya
/- THE CELL 'sum', in the pinned program and in every row, IS THE sha256 OF THE DUMP (.gsa) THAT YbulkwyaProg.lean LOADS. Nothing in Lean hashes anything: it is a label: what it is worth is what the hold of that sum in a sandbox is worth. -/
noncomputable def Yba.pinned : Pinned := { name := "ybulkwya", sum := "d182cd7a77f5915d7d258010fe8d5250e84e6661f3e760b603aba0162df23d0a", checked := Yba.checked }
namespace Rows
def none {H : Type} : Left H := { results := [], args := [] }

/-- 'dspath.LawS1157BExact': WHATEVER THE INPUT: true; the input reads as it did. -/
def lawS1157BExactSpec : ChangeSpec := { name := "lawS1157BExact", fn := fun _ => fun
  | [d] => { results := [.lit (.bool true)], args := [d] }
  | _ => none }
def lawS1157BExactRow : OpenClaim := { program := "ybulkwya", sum := "d182cd7a77f5915d7d258010fe8d5250e84e6661f3e760b603aba0162df23d0a", func := "example.com/waymark/waymark/dspath.LawS1157BExact", spec := "lawS1157BExact", apart := false }
def LawS1157BExactSaid : Prop := lawS1157BExactRow.holds Yba.pinned (OpenSpec.ofChange lawS1157BExactSpec)

/-- ITS FALSE NEIGHBOUR: 'it returns false'. Refute it at one input. -/
def lawS1157BExactWrong : ChangeSpec := { name := "lawS1157BExact", fn := fun _ => fun
  | [d] => { results := [.lit (.bool false)], args := [d] }
  | _ => none }
def LawS1157BExactWrongFalsely : Prop := lawS1157BExactRow.holds Yba.pinned (OpenSpec.ofChange lawS1157BExactWrong)

/-- 'dspath.LawS1157BRoundTrip': WHATEVER THE INPUT: true; the input reads as it did. -/
def lawS1157BRoundTripSpec : ChangeSpec := { name := "lawS1157BRoundTrip", fn := fun _ => fun
  | [d] => { results := [.lit (.bool true)], args := [d] }
  | _ => none }
def lawS1157BRoundTripRow : OpenClaim := { program := "ybulkwya", sum := "d182cd7a77f5915d7d258010fe8d5250e84e6661f3e760b603aba0162df23d0a", func := "example.com/waymark/waymark/dspath.LawS1157BRoundTrip", spec := "lawS1157BRoundTrip", apart := false }
def LawS1157BRoundTripSaid : Prop := lawS1157BRoundTripRow.holds Yba.pinned (OpenSpec.ofChange lawS1157BRoundTripSpec)

/-- ITS FALSE NEIGHBOUR: 'it returns false'. Refute it at one input. -/
def lawS1157BRoundTripWrong : ChangeSpec := { name := "lawS1157BRoundTrip", fn := fun _ => fun
  | [d] => { results := [.lit (.bool false)], args := [d] }
  | _ => none }
def LawS1157BRoundTripWrongFalsely : Prop := lawS1157BRoundTripRow.holds Yba.pinned (OpenSpec.ofChange lawS1157BRoundTripWrong)

end Rows
end Go.Proofs.Ybulkwya
