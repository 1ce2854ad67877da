/-
  DERIVED. GIVEN WITH THE SEED: THE CARDS: each row of YbulkbqauFmtRows.lean that lists a variable, with what it lists TIED to the program's text (the seventh form; the later family's looks); each row that meets fmt, with fmt's text TOLD by the authors' own Lean function (tested against real Go, not proved from fmt's source: count such statements apart). THE CARD IS WHAT COUNTS. Prove the row's statement (the work); the ties are given (YbulkbqauFmtTie.lean); close each card by the builder's one call (the guide's Derived/Test/ToyasCard.lean, 'card_holds'). Laid BY PROGRAM, IN A SANDBOX (cutbox-door.mjs). By AI agents, Wed Nov 11 2026. No macro, syntax, notation, axiom, sorry.
-/
import Derived.Test.YbulkbqauFmtRows
import GoSem.ClaimSeven
namespace Go.Proofs.YbulkbqauFmt
namespace Rows

/-- THE TOLD CARD OF 'gossip.LawS3335BRange'. -/
def lawS3335BRangeCard : Claim7 := { stood := { row := lawS3335BRangeRow, standIns := [], harness := (true, "e943932dc7af6fcaf07607665cddefa72aff3e9b76e2b3d9679db9b12cf65ac7"), looks := false }, told := true, goes := false }
def LawS3335BRangeToldSaid : Prop := Claim7.holds Ybaf.pinned (.plain (OpenSpec.ofChange lawS3335BRangeSpec)) lawS3335BRangeCard
/-- ITS FALSE NEIGHBOUR. Refute it at one input. -/
def LawS3335BRangeToldWrongFalsely : Prop := Claim7.holds Ybaf.pinned (.plain (OpenSpec.ofChange lawS3335BRangeWrong)) lawS3335BRangeCard

/-- THE TOLD AND TIED CARD OF 'gossip.LawS3335CExact'. -/
def lawS3335CExactCard : Claim7 := { stood := { row := lawS3335CExactRow, standIns := [], harness := (true, "e943932dc7af6fcaf07607665cddefa72aff3e9b76e2b3d9679db9b12cf65ac7"), looks := false }, told := true, laidByText := true, laidKinds := [.data, .widerDeep], laidTests := true, laidLooks := .later, goes := false }
def LawS3335CExactToldSaid : Prop := Claim7.holds Ybaf.pinned (.plain (OpenSpec.ofChange lawS3335CExactSpec)) lawS3335CExactCard
/-- ITS FALSE NEIGHBOUR. Refute it at one input. -/
def LawS3335CExactToldWrongFalsely : Prop := Claim7.holds Ybaf.pinned (.plain (OpenSpec.ofChange lawS3335CExactWrong)) lawS3335CExactCard

/-- THE TOLD AND TIED CARD OF 'gossip.LawS3335CRelate'. -/
def lawS3335CRelateCard : Claim7 := { stood := { row := lawS3335CRelateRow, standIns := [], harness := (true, "e943932dc7af6fcaf07607665cddefa72aff3e9b76e2b3d9679db9b12cf65ac7"), looks := false }, told := true, laidByText := true, laidKinds := [.data, .widerDeep], laidTests := true, laidLooks := .later, goes := false }
def LawS3335CRelateToldSaid : Prop := Claim7.holds Ybaf.pinned (.plain (OpenSpec.ofChange lawS3335CRelateSpec)) lawS3335CRelateCard
/-- ITS FALSE NEIGHBOUR. Refute it at one input. -/
def LawS3335CRelateToldWrongFalsely : Prop := Claim7.holds Ybaf.pinned (.plain (OpenSpec.ofChange lawS3335CRelateWrong)) lawS3335CRelateCard
end Rows
end Go.Proofs.YbulkbqauFmt
