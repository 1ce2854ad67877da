/-
  NARROWER THAN 'FOR EVERY INPUT', by the rows' own cells (each row's printed sentence says how): LawS3332BTable: maps, laid · LawS3332BNote: maps, laid.
  DERIVED. THE GIVEN ROWS OF THIS SEAT. 2 by the template 'for every input the law returns true; each argument reads behind the call as it read before'; 0 by the template 'total and deterministic' (their statements: YbulkbpzeDoorTotals.lean).
  GIVEN WITH THE SEED: the statements are not yours to turn. If you find one false, say at which input.
  Laid BY PROGRAM, IN A SANDBOX (cutbox-rows.mjs): the forced cells as the released guide's own fill.sh prints them over the translation f700caa1f8a4f158… (all of the seat's roots in one cut). By AI agents, Wed Nov 11 2026. No macro, syntax, notation, axiom, sorry.
-/
import Derived.Test.YbulkbpzeDoorChecked
import GoSem.Claim
import GoSem.ClaimJoined
import GoSem.ClaimMapViews
import Derived.JoinedTies
import Derived.KernelRfl
namespace Go.Proofs.YbulkbpzeDoor
/- THE CELL 'sum', in the pinned program and in every row, IS THE sha256 OF THE DUMP (.gsa) THAT YbulkbpzeDoorProg.lean LOADS. Nothing in Lean hashes anything: it is a label: what it is worth is what the hold of that sum in a sandbox is worth. -/
noncomputable def Ybad.pinned : Pinned := { name := "ybulkbpzedoor", sum := "f700caa1f8a4f158fe4eab0121da0942ea1824b5560a445a0571bfe5af33921e", checked := Ybad.checked }
namespace Rows
def none {H : Type} : Left H := { results := [], args := [] }

/- WHAT THE LISTED PACKAGE-LEVEL VARIABLES READ AS WHEN THE CALL BEGINS. Each datum BY PROGRAM (the guide's laid-datum.mjs) off the statement by which the dump's own 'gosem.cut.vars' lays the variable. In a bare row this is a premise. The card (YbulkbpzeDoorCards.lean) ties it to the program's text. -/
def laid_example_com_countermarch_countermarch_endings {H : Type} : DataW H := .map [(.string [115, 97, 103, 97, 95, 99, 111, 109, 112, 101, 110, 115, 97, 116, 101, 100], .lit (.int .u8 3)), (.string [115, 97, 103, 97, 95, 99, 111, 109, 112, 101, 110, 115, 97, 116, 105, 111, 110, 95, 102, 97, 105, 108, 101, 100], .lit (.int .u8 5)), (.string [115, 97, 103, 97, 95, 99, 111, 109, 112, 108, 101, 116, 101, 100], .lit (.int .u8 2)), (.string [115, 97, 103, 97, 95, 102, 97, 105, 108, 101, 100], .lit (.int .u8 4))]

/-- 'countermarch.LawS3332BTable': WHATEVER THE INPUT: true; the input reads as it did. -/
def lawS3332BTableSpec : ChangeSpec := { name := "lawS3332BTable", vars := ["example.com/countermarch/countermarch.endings"], fn := fun _ => fun
  | [d1, d2, d3, d4, d5, d6, d7, g1] => { results := [.lit (.bool true)], args := [d1, d2, d3, d4, d5, d6, d7], vars := [g1] }
  | _ => none }
def lawS3332BTableRow : OpenClaim := { program := "ybulkbpzedoor", sum := "f700caa1f8a4f158fe4eab0121da0942ea1824b5560a445a0571bfe5af33921e", func := "example.com/countermarch/countermarch.LawS3332BTable", spec := "lawS3332BTable", named := ["example.com/countermarch/countermarch.endings"], maps := true, apart := false, laid := [("example.com/countermarch/countermarch.endings", laid_example_com_countermarch_countermarch_endings)] }
def LawS3332BTableSaid : Prop := lawS3332BTableRow.holds Ybad.pinned (OpenSpec.ofChange lawS3332BTableSpec)

/-- ITS FALSE NEIGHBOUR: 'it returns false'. Refute it at one input. -/
def lawS3332BTableWrong : ChangeSpec := { name := "lawS3332BTable", vars := ["example.com/countermarch/countermarch.endings"], fn := fun _ => fun
  | [d1, d2, d3, d4, d5, d6, d7, g1] => { results := [.lit (.bool false)], args := [d1, d2, d3, d4, d5, d6, d7], vars := [g1] }
  | _ => none }
def LawS3332BTableWrongFalsely : Prop := lawS3332BTableRow.holds Ybad.pinned (OpenSpec.ofChange lawS3332BTableWrong)

/-- 'countermarch.LawS3332BNote': WHATEVER THE INPUT: true; the input reads as it did. -/
def lawS3332BNoteSpec : ChangeSpec := { name := "lawS3332BNote", vars := ["example.com/countermarch/countermarch.endings"], fn := fun _ => fun
  | [d, g1] => { results := [.lit (.bool true)], args := [d], vars := [g1] }
  | _ => none }
def lawS3332BNoteRow : OpenClaim := { program := "ybulkbpzedoor", sum := "f700caa1f8a4f158fe4eab0121da0942ea1824b5560a445a0571bfe5af33921e", func := "example.com/countermarch/countermarch.LawS3332BNote", spec := "lawS3332BNote", named := ["example.com/countermarch/countermarch.endings"], maps := true, apart := false, laid := [("example.com/countermarch/countermarch.endings", laid_example_com_countermarch_countermarch_endings)] }
def LawS3332BNoteSaid : Prop := lawS3332BNoteRow.holds Ybad.pinned (OpenSpec.ofChange lawS3332BNoteSpec)

/-- ITS FALSE NEIGHBOUR: 'it returns false'. Refute it at one input. -/
def lawS3332BNoteWrong : ChangeSpec := { name := "lawS3332BNote", vars := ["example.com/countermarch/countermarch.endings"], fn := fun _ => fun
  | [d, g1] => { results := [.lit (.bool false)], args := [d], vars := [g1] }
  | _ => none }
def LawS3332BNoteWrongFalsely : Prop := lawS3332BNoteRow.holds Ybad.pinned (OpenSpec.ofChange lawS3332BNoteWrong)

end Rows
end Go.Proofs.YbulkbpzeDoor
