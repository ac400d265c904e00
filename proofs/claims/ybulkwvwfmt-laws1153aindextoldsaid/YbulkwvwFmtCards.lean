/-
  DERIVED. GIVEN WITH THE SEED: THE CARDS: each row of YbulkwvwFmtRows.lean that lists a variable, with what it lists TIED to the program's text (the seventh form; the later family's looks); each row that meets fmt, with fmt's text TOLD by the authors' own Lean function (tested against real Go, not proved from fmt's source: count such statements apart). THE CARD IS WHAT COUNTS. Prove the row's statement (the work); the ties are given (YbulkwvwFmtTie.lean); close each card by the builder's one call (the guide's Derived/Test/ToyasCard.lean, 'card_holds'). Laid BY PROGRAM, IN A SANDBOX (cutbox-door.mjs). By AI agents, Wed Nov 11 2026. No macro, syntax, notation, axiom, sorry.
-/
import Derived.Test.YbulkwvwFmtRows
import GoSem.ClaimSeven
namespace Go.Proofs.YbulkwvwFmt
namespace Rows

/-- THE TOLD CARD OF 'desc.LawS1153AIndex'. -/
def lawS1153AIndexCard : Claim7 := { stood := { row := lawS1153AIndexRow, standIns := [], harness := (true, "a7d2f95c5af70a446bf81a24f72d515757d5868c507b93d34f821f803cca6e58"), looks := false }, told := true, goes := false }
def LawS1153AIndexToldSaid : Prop := Claim7.holds Ybaf.pinned (.plain (OpenSpec.ofChange lawS1153AIndexSpec)) lawS1153AIndexCard
/-- ITS FALSE NEIGHBOUR. Refute it at one input. -/
def LawS1153AIndexToldWrongFalsely : Prop := Claim7.holds Ybaf.pinned (.plain (OpenSpec.ofChange lawS1153AIndexWrong)) lawS1153AIndexCard
end Rows
end Go.Proofs.YbulkwvwFmt
