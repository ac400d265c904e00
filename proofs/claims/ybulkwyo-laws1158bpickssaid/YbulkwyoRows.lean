/-
  No cell of these rows narrows 'for every input' (looked for: loops, veiled, ifaces, maps, wideKeys, modest, calm, conditions, laid).
  DERIVED. THE GIVEN ROWS OF THIS SEAT. 1 by the template 'for every input the law returns true; each argument reads behind the call as it read before'; 0 by the template 'total and deterministic' (their statements: YbulkwyoTotals.lean).
  GIVEN WITH THE SEED: the statements are not yours to turn. If you find one false, say at which input.
  Laid BY PROGRAM, IN A SANDBOX (cutbox-rows.mjs): the forced cells as the released guide's own fill.sh prints them over the translation d0b47fb44b7f744b… (all of the seat's roots in one cut). By AI agents, Wed Nov 11 2026. No macro, syntax, notation, axiom, sorry.
-/
import Derived.Test.YbulkwyoChecked
import GoSem.Claim
import GoSem.ClaimJoined
import GoSem.ClaimMapViews
import Derived.JoinedTies
import Derived.KernelRfl
namespace Go.Proofs.Ybulkwyo
/- THE CELL 'sum', in the pinned program and in every row, IS THE sha256 OF THE DUMP (.gsa) THAT YbulkwyoProg.lean LOADS. Nothing in Lean hashes anything: it is a label: what it is worth is what the hold of that sum in a sandbox is worth. -/
noncomputable def Yba.pinned : Pinned := { name := "ybulkwyo", sum := "d0b47fb44b7f744b7641d753bdb255f8e24e48f5b865ff4e14ce6043ae55553b", checked := Yba.checked }
namespace Rows
def none {H : Type} : Left H := { results := [], args := [] }

/-- 'check.LawS1158BPicks': WHATEVER THE INPUT: true; the input reads as it did. -/
def lawS1158BPicksSpec : ChangeSpec := { name := "lawS1158BPicks", fn := fun _ => fun
  | [d1, d2, d3] => { results := [.lit (.bool true)], args := [d1, d2, d3] }
  | _ => none }
def lawS1158BPicksRow : OpenClaim := { program := "ybulkwyo", sum := "d0b47fb44b7f744b7641d753bdb255f8e24e48f5b865ff4e14ce6043ae55553b", func := "example.com/tyvar/tyvar/internal/check.LawS1158BPicks", spec := "lawS1158BPicks", apart := false }
def LawS1158BPicksSaid : Prop := lawS1158BPicksRow.holds Yba.pinned (OpenSpec.ofChange lawS1158BPicksSpec)

/-- ITS FALSE NEIGHBOUR: 'it returns false'. Refute it at one input. -/
def lawS1158BPicksWrong : ChangeSpec := { name := "lawS1158BPicks", fn := fun _ => fun
  | [d1, d2, d3] => { results := [.lit (.bool false)], args := [d1, d2, d3] }
  | _ => none }
def LawS1158BPicksWrongFalsely : Prop := lawS1158BPicksRow.holds Yba.pinned (OpenSpec.ofChange lawS1158BPicksWrong)

end Rows
end Go.Proofs.Ybulkwyo
