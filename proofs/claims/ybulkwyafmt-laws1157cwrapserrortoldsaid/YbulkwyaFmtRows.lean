/-
  NARROWER THAN 'FOR EVERY INPUT', by the rows' own cells (each row's printed sentence says how): LawS1157CWrapsError: laid.
  DERIVED. THE GIVEN ROWS OF THIS SEAT. 2 by the template 'for every input the law returns true; each argument reads behind the call as it read before'; 0 by the template 'total and deterministic' (their statements: YbulkwyaFmtTotals.lean).
  GIVEN WITH THE SEED: the statements are not yours to turn. If you find one false, say at which input.
  Laid BY PROGRAM, IN A SANDBOX (cutbox-rows.mjs): the forced cells as the released guide's own fill.sh prints them over the translation 7621631d371ad57b… (all of the seat's roots in one cut). By AI agents, Wed Nov 11 2026. No macro, syntax, notation, axiom, sorry.
-/
import Derived.Test.YbulkwyaFmtChecked
import GoSem.Claim
import GoSem.ClaimJoined
import GoSem.ClaimMapViews
import Derived.JoinedTies
import Derived.KernelRfl
namespace Go.Proofs.YbulkwyaFmt
/- THE CELL 'sum', in the pinned program and in every row, IS THE sha256 OF THE DUMP (.gsa) THAT YbulkwyaFmtProg.lean LOADS. Nothing in Lean hashes anything: it is a label: what it is worth is what the hold of that sum in a sandbox is worth. -/
noncomputable def Ybaf.pinned : Pinned := { name := "ybulkwyafmt", sum := "7621631d371ad57b0c8f5603a0ea5fc712ad0d9569763ccd6d2c795210f00e5d", checked := Ybaf.checked }
namespace Rows
def none {H : Type} : Left H := { results := [], args := [] }

/- WHAT THE LISTED PACKAGE-LEVEL VARIABLES READ AS WHEN THE CALL BEGINS. Each datum BY PROGRAM (the guide's laid-datum.mjs) off the statement by which the dump's own 'gosem.cut.vars' lays the variable. In a bare row this is a premise. The card (YbulkwyaFmtCards.lean) ties it to the program's text. -/
def laid_errors_errorType {H : Type} : DataW H := .iface "internal/reflectlite.rtype" (.agg [.ptr (.lit (.string [101, 114, 114, 111, 114]))])

/-- 'waymark.LawS1157CPassesMatches': WHATEVER THE INPUT: true; the input reads as it did. -/
def lawS1157CPassesMatchesSpec : ChangeSpec := { name := "lawS1157CPassesMatches", fn := fun _ => fun
  | [d1, d2, d3] => { results := [.lit (.bool true)], args := [d1, d2, d3] }
  | _ => none }
def lawS1157CPassesMatchesRow : OpenClaim := { program := "ybulkwyafmt", sum := "7621631d371ad57b0c8f5603a0ea5fc712ad0d9569763ccd6d2c795210f00e5d", func := "example.com/waymark/waymark.LawS1157CPassesMatches", spec := "lawS1157CPassesMatches", stops := ["fmt.errorf, its operands' methods called"], inPlace := ["fmt.errorf"], unfollowed := true, recurses := true, apart := false }
/-- NO THEOREM (fmt's text is open here; it may be false): for the released tool's asking of the row's closed facts alone. THE STATEMENT IS 'LawS1157CPassesMatchesToldSaid' (YbulkwyaFmtCards.lean). -/
def LawS1157CPassesMatchesFormAsk : Prop := lawS1157CPassesMatchesRow.holds Ybaf.pinned (OpenSpec.ofChange lawS1157CPassesMatchesSpec)

/-- ITS FALSE NEIGHBOUR: 'it returns false'. Refute it at one input. -/
def lawS1157CPassesMatchesWrong : ChangeSpec := { name := "lawS1157CPassesMatches", fn := fun _ => fun
  | [d1, d2, d3] => { results := [.lit (.bool false)], args := [d1, d2, d3] }
  | _ => none }
def LawS1157CPassesMatchesWrongFormAsk : Prop := lawS1157CPassesMatchesRow.holds Ybaf.pinned (OpenSpec.ofChange lawS1157CPassesMatchesWrong)

/-- 'waymark.LawS1157CWrapsError': WHATEVER THE INPUT: true; the input reads as it did. -/
def lawS1157CWrapsErrorSpec : ChangeSpec := { name := "lawS1157CWrapsError", fn := fun _ => fun
  | [d1, d2, d3, d4] => { results := [.lit (.bool true)], args := [d1, d2, d3, d4] }
  | _ => none }
def lawS1157CWrapsErrorRow : OpenClaim := { program := "ybulkwyafmt", sum := "7621631d371ad57b0c8f5603a0ea5fc712ad0d9569763ccd6d2c795210f00e5d", func := "example.com/waymark/waymark.LawS1157CWrapsError", spec := "lawS1157CWrapsError", stops := ["fmt.errorf, its operands' methods called"], inPlace := ["fmt.errorf", "internal/reflectlite.TypeOf", "internal/reflectlite.ValueOf", "(internal/reflectlite.Value).Type", "(internal/reflectlite.Value).IsNil", "(internal/reflectlite.Value).Elem", "(internal/reflectlite.Value).Set"], unfollowed := true, recurses := true, named := ["errors.errorType"], apart := false, laid := [("errors.errorType", laid_errors_errorType)] }
/-- NO THEOREM (fmt's text is open here; it may be false): for the released tool's asking of the row's closed facts alone. THE STATEMENT IS 'LawS1157CWrapsErrorToldSaid' (YbulkwyaFmtCards.lean). -/
def LawS1157CWrapsErrorFormAsk : Prop := lawS1157CWrapsErrorRow.holds Ybaf.pinned (OpenSpec.ofChange lawS1157CWrapsErrorSpec)

/-- ITS FALSE NEIGHBOUR: 'it returns false'. Refute it at one input. -/
def lawS1157CWrapsErrorWrong : ChangeSpec := { name := "lawS1157CWrapsError", fn := fun _ => fun
  | [d1, d2, d3, d4] => { results := [.lit (.bool false)], args := [d1, d2, d3, d4] }
  | _ => none }
def LawS1157CWrapsErrorWrongFormAsk : Prop := lawS1157CWrapsErrorRow.holds Ybaf.pinned (OpenSpec.ofChange lawS1157CWrapsErrorWrong)

end Rows
end Go.Proofs.YbulkwyaFmt
