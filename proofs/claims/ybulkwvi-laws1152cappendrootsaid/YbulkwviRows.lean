/-
  No cell of these rows narrows 'for every input' (looked for: loops, veiled, ifaces, maps, wideKeys, modest, calm, conditions, laid).
  DERIVED. THE GIVEN ROWS OF THIS SEAT. 2 by the template 'for every input the law returns true; each argument reads behind the call as it read before'; 0 by the template 'total and deterministic' (their statements: YbulkwviTotals.lean).
  GIVEN WITH THE SEED: the statements are not yours to turn. If you find one false, say at which input.
  Laid BY PROGRAM, IN A SANDBOX (cutbox-rows.mjs): the forced cells as the released guide's own fill.sh prints them over the translation 9e2abe7ebc1d2d80… (all of the seat's roots in one cut). By AI agents, Wed Nov 11 2026. No macro, syntax, notation, axiom, sorry.
-/
import Derived.Test.YbulkwviChecked
import GoSem.Claim
import GoSem.ClaimJoined
import GoSem.ClaimMapViews
import Derived.JoinedTies
import Derived.KernelRfl
namespace Go.Proofs.Ybulkwvi
/- THE CELL 'sum', in the pinned program and in every row, IS THE sha256 OF THE DUMP (.gsa) THAT YbulkwviProg.lean LOADS. Nothing in Lean hashes anything: it is a label: what it is worth is what the hold of that sum in a sandbox is worth. -/
noncomputable def Yba.pinned : Pinned := { name := "ybulkwvi", sum := "9e2abe7ebc1d2d80b1a8e582833b34b00162bd6f483cd17280ce4ef6f043eb5a", checked := Yba.checked }
namespace Rows
def none {H : Type} : Left H := { results := [], args := [] }

/-- 'spans.LawS1152CFirstRoot': WHATEVER THE INPUT: true; the input reads as it did. -/
def lawS1152CFirstRootSpec : ChangeSpec := { name := "lawS1152CFirstRoot", fn := fun _ => fun
  | [d] => { results := [.lit (.bool true)], args := [d] }
  | _ => none }
def lawS1152CFirstRootRow : OpenClaim := { program := "ybulkwvi", sum := "9e2abe7ebc1d2d80b1a8e582833b34b00162bd6f483cd17280ce4ef6f043eb5a", func := "example.com/tarnquill/tarnquill/internal/spans.LawS1152CFirstRoot", spec := "lawS1152CFirstRoot", apart := false }
def LawS1152CFirstRootSaid : Prop := lawS1152CFirstRootRow.holds Yba.pinned (OpenSpec.ofChange lawS1152CFirstRootSpec)

/-- ITS FALSE NEIGHBOUR: 'it returns false'. Refute it at one input. -/
def lawS1152CFirstRootWrong : ChangeSpec := { name := "lawS1152CFirstRoot", fn := fun _ => fun
  | [d] => { results := [.lit (.bool false)], args := [d] }
  | _ => none }
def LawS1152CFirstRootWrongFalsely : Prop := lawS1152CFirstRootRow.holds Yba.pinned (OpenSpec.ofChange lawS1152CFirstRootWrong)

/-- 'spans.LawS1152CAppendRoot': WHATEVER THE INPUT: true; the input reads as it did. -/
def lawS1152CAppendRootSpec : ChangeSpec := { name := "lawS1152CAppendRoot", fn := fun _ => fun
  | [d] => { results := [.lit (.bool true)], args := [d] }
  | _ => none }
def lawS1152CAppendRootRow : OpenClaim := { program := "ybulkwvi", sum := "9e2abe7ebc1d2d80b1a8e582833b34b00162bd6f483cd17280ce4ef6f043eb5a", func := "example.com/tarnquill/tarnquill/internal/spans.LawS1152CAppendRoot", spec := "lawS1152CAppendRoot", apart := false }
def LawS1152CAppendRootSaid : Prop := lawS1152CAppendRootRow.holds Yba.pinned (OpenSpec.ofChange lawS1152CAppendRootSpec)

/-- ITS FALSE NEIGHBOUR: 'it returns false'. Refute it at one input. -/
def lawS1152CAppendRootWrong : ChangeSpec := { name := "lawS1152CAppendRoot", fn := fun _ => fun
  | [d] => { results := [.lit (.bool false)], args := [d] }
  | _ => none }
def LawS1152CAppendRootWrongFalsely : Prop := lawS1152CAppendRootRow.holds Yba.pinned (OpenSpec.ofChange lawS1152CAppendRootWrong)

end Rows
end Go.Proofs.Ybulkwvi
