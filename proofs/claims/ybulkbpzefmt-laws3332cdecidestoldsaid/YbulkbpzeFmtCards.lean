/-
  DERIVED. GIVEN WITH THE SEED: THE CARDS: each row of YbulkbpzeFmtRows.lean that lists a variable, with what it lists TIED to the program's text (the seventh form; the later family's looks); each row that meets fmt, with fmt's text TOLD by the authors' own Lean function (tested against real Go, not proved from fmt's source: count such statements apart). THE CARD IS WHAT COUNTS. Prove the row's statement (the work); the ties are given (YbulkbpzeFmtTie.lean); close each card by the builder's one call (the guide's Derived/Test/ToyasCard.lean, 'card_holds'). Laid BY PROGRAM, IN A SANDBOX (cutbox-door.mjs). By AI agents, Wed Nov 11 2026. No macro, syntax, notation, axiom, sorry.
-/
import Derived.Test.YbulkbpzeFmtRows
import GoSem.ClaimSeven
namespace Go.Proofs.YbulkbpzeFmt
namespace Rows

/-- THE TOLD CARD OF 'countermarch.LawS3332CDecides'. -/
def lawS3332CDecidesCard : Claim7 := { stood := { row := lawS3332CDecidesRow, standIns := [], harness := (true, "2d045783e4ff56fcbab13bdd9a933cf9b0388b93c4bd0101a6da3ab91f3f45c7"), looks := false }, told := true, goes := false }
def LawS3332CDecidesToldSaid : Prop := Claim7.holds Ybaf.pinned (.plain (OpenSpec.ofChange lawS3332CDecidesSpec)) lawS3332CDecidesCard
/-- ITS FALSE NEIGHBOUR. Refute it at one input. -/
def LawS3332CDecidesToldWrongFalsely : Prop := Claim7.holds Ybaf.pinned (.plain (OpenSpec.ofChange lawS3332CDecidesWrong)) lawS3332CDecidesCard
end Rows
end Go.Proofs.YbulkbpzeFmt
