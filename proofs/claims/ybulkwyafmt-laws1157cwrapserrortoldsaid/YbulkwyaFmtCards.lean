/-
  DERIVED. GIVEN WITH THE SEED: THE CARDS: each row of YbulkwyaFmtRows.lean that lists a variable, with what it lists TIED to the program's text (the seventh form; the later family's looks); each row that meets fmt, with fmt's text TOLD by the authors' own Lean function (tested against real Go, not proved from fmt's source: count such statements apart). THE CARD IS WHAT COUNTS. Prove the row's statement (the work); the ties are given (YbulkwyaFmtTie.lean); close each card by the builder's one call (the guide's Derived/Test/ToyasCard.lean, 'card_holds'). Laid BY PROGRAM, IN A SANDBOX (cutbox-door.mjs). By AI agents, Wed Nov 11 2026. No macro, syntax, notation, axiom, sorry.
-/
import Derived.Test.YbulkwyaFmtRows
import GoSem.ClaimSeven
namespace Go.Proofs.YbulkwyaFmt
namespace Rows

/-- THE TOLD CARD OF 'waymark.LawS1157CPassesMatches'. -/
def lawS1157CPassesMatchesCard : Claim7 := { stood := { row := lawS1157CPassesMatchesRow, standIns := [], harness := (true, "875d5b9c3b5c5a8783d7cbf84a7f00b990475b8890df1b2a81005429dbf0d60f"), looks := true }, told := true, goes := false }
def LawS1157CPassesMatchesToldSaid : Prop := Claim7.holds Ybaf.pinned (.plain (OpenSpec.ofChange lawS1157CPassesMatchesSpec)) lawS1157CPassesMatchesCard
/-- ITS FALSE NEIGHBOUR. Refute it at one input. -/
def LawS1157CPassesMatchesToldWrongFalsely : Prop := Claim7.holds Ybaf.pinned (.plain (OpenSpec.ofChange lawS1157CPassesMatchesWrong)) lawS1157CPassesMatchesCard

/-- THE TOLD AND TIED CARD OF 'waymark.LawS1157CWrapsError'. -/
def lawS1157CWrapsErrorCard : Claim7 := { stood := { row := lawS1157CWrapsErrorRow, standIns := [], harness := (true, "875d5b9c3b5c5a8783d7cbf84a7f00b990475b8890df1b2a81005429dbf0d60f"), looks := true }, told := true, laidByText := true, laidKinds := [.handle], laidTests := true, laidLooks := .later, goes := false }
def LawS1157CWrapsErrorToldSaid : Prop := Claim7.holds Ybaf.pinned (.plain (OpenSpec.ofChange lawS1157CWrapsErrorSpec)) lawS1157CWrapsErrorCard
/-- ITS FALSE NEIGHBOUR. Refute it at one input. -/
def LawS1157CWrapsErrorToldWrongFalsely : Prop := Claim7.holds Ybaf.pinned (.plain (OpenSpec.ofChange lawS1157CWrapsErrorWrong)) lawS1157CWrapsErrorCard
end Rows
end Go.Proofs.YbulkwyaFmt
