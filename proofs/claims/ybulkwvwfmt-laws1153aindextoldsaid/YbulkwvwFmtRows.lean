/-
  No cell of these rows narrows 'for every input' (looked for: loops, veiled, ifaces, maps, wideKeys, modest, calm, conditions, laid).
  DERIVED. THE GIVEN ROWS OF THIS SEAT. 1 by the template 'for every input the law returns true; each argument reads behind the call as it read before'; 0 by the template 'total and deterministic' (their statements: YbulkwvwFmtTotals.lean).
  GIVEN WITH THE SEED: the statements are not yours to turn. If you find one false, say at which input.
  Laid BY PROGRAM, IN A SANDBOX (cutbox-rows.mjs): the forced cells as the released guide's own fill.sh prints them over the translation 57eb440de9599ab3… (all of the seat's roots in one cut). By AI agents, Wed Nov 11 2026. No macro, syntax, notation, axiom, sorry.
-/
import Derived.Test.YbulkwvwFmtChecked
import GoSem.Claim
import GoSem.ClaimJoined
import GoSem.ClaimMapViews
import Derived.JoinedTies
import Derived.KernelRfl
namespace Go.Proofs.YbulkwvwFmt
/- THE CELL 'sum', in the pinned program and in every row, IS THE sha256 OF THE DUMP (.gsa) THAT YbulkwvwFmtProg.lean LOADS. Nothing in Lean hashes anything: it is a label: what it is worth is what the hold of that sum in a sandbox is worth. -/
noncomputable def Ybaf.pinned : Pinned := { name := "ybulkwvwfmt", sum := "57eb440de9599ab35c0f79fd10f160522dca8b9b16fd32358239ba42b3fa741a", checked := Ybaf.checked }
namespace Rows
def none {H : Type} : Left H := { results := [], args := [] }

/-- 'desc.LawS1153AIndex': WHATEVER THE INPUT: true; the input reads as it did. -/
def lawS1153AIndexSpec : ChangeSpec := { name := "lawS1153AIndex", fn := fun _ => fun
  | [d1, d2, d3, d4, d5, d6] => { results := [.lit (.bool true)], args := [d1, d2, d3, d4, d5, d6] }
  | _ => none }
def lawS1153AIndexRow : OpenClaim := { program := "ybulkwvwfmt", sum := "57eb440de9599ab35c0f79fd10f160522dca8b9b16fd32358239ba42b3fa741a", func := "example.com/kernshake/kernshake/desc.LawS1153AIndex", spec := "lawS1153AIndex", stops := ["fmt.Sprintf, its operands' methods called"], inPlace := ["fmt.Sprintf"], unfollowed := true, recurses := true, apart := false }
/-- NO THEOREM (fmt's text is open here; it may be false): for the released tool's asking of the row's closed facts alone. THE STATEMENT IS 'LawS1153AIndexToldSaid' (YbulkwvwFmtCards.lean). -/
def LawS1153AIndexFormAsk : Prop := lawS1153AIndexRow.holds Ybaf.pinned (OpenSpec.ofChange lawS1153AIndexSpec)

/-- ITS FALSE NEIGHBOUR: 'it returns false'. Refute it at one input. -/
def lawS1153AIndexWrong : ChangeSpec := { name := "lawS1153AIndex", fn := fun _ => fun
  | [d1, d2, d3, d4, d5, d6] => { results := [.lit (.bool false)], args := [d1, d2, d3, d4, d5, d6] }
  | _ => none }
def LawS1153AIndexWrongFormAsk : Prop := lawS1153AIndexRow.holds Ybaf.pinned (OpenSpec.ofChange lawS1153AIndexWrong)

end Rows
end Go.Proofs.YbulkwvwFmt
