/-
  DERIVED. GIVEN WITH THE SEED: THE CARDS: each row of YbulkbpzeDoorRows.lean that lists a variable, with what it lists TIED to the program's text (the seventh form; the later family's looks); each row that meets fmt, with fmt's text TOLD by the authors' own Lean function (tested against real Go, not proved from fmt's source: count such statements apart). THE CARD IS WHAT COUNTS. Prove the row's statement (the work); the ties are given (YbulkbpzeDoorTie.lean); close each card by the builder's one call (the guide's Derived/Test/ToyasCard.lean, 'card_holds'). Laid BY PROGRAM, IN A SANDBOX (cutbox-door.mjs). By AI agents, Wed Nov 11 2026. No macro, syntax, notation, axiom, sorry.
-/
import Derived.Test.YbulkbpzeDoorRows
import GoSem.ClaimSeven
namespace Go.Proofs.YbulkbpzeDoor
namespace Rows

/-- THE TIED CARD OF 'countermarch.LawS3332BTable'. -/
def lawS3332BTableCard : Claim7 := { stood := { row := lawS3332BTableRow, standIns := [], harness := (true, "9d882c25c0269e4f6c42cb9bcaf7523d86db4307b70a3210665f5ed58698c51a"), looks := false }, kinds := [], alts := [], laidByText := true, laidKinds := [.mapped], laidTests := true, laidLooks := .later }
def LawS3332BTableCardSaid : Prop := Claim7.holds Ybad.pinned (.plain (OpenSpec.ofChange lawS3332BTableSpec)) lawS3332BTableCard

/-- THE TIED CARD OF 'countermarch.LawS3332BNote'. -/
def lawS3332BNoteCard : Claim7 := { stood := { row := lawS3332BNoteRow, standIns := [], harness := (true, "9d882c25c0269e4f6c42cb9bcaf7523d86db4307b70a3210665f5ed58698c51a"), looks := false }, kinds := [], alts := [], laidByText := true, laidKinds := [.mapped], laidTests := true, laidLooks := .later }
def LawS3332BNoteCardSaid : Prop := Claim7.holds Ybad.pinned (.plain (OpenSpec.ofChange lawS3332BNoteSpec)) lawS3332BNoteCard
end Rows
end Go.Proofs.YbulkbpzeDoor
