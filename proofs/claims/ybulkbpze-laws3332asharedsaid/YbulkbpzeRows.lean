/-
  No cell of these rows narrows 'for every input' (looked for: loops, veiled, ifaces, maps, wideKeys, modest, calm, conditions, laid).
  DERIVED. THE GIVEN ROWS OF THIS SEAT. 2 by the template 'for every input the law returns true; each argument reads behind the call as it read before'; 0 by the template 'total and deterministic' (their statements: YbulkbpzeTotals.lean).
  GIVEN WITH THE SEED: the statements are not yours to turn. If you find one false, say at which input.
  Laid BY PROGRAM, IN A SANDBOX (cutbox-rows.mjs): the forced cells as the released guide's own fill.sh prints them over the translation 562d72f22d5cdd84… (all of the seat's roots in one cut). By AI agents, Wed Nov 11 2026. No macro, syntax, notation, axiom, sorry.
-/
import Derived.Test.YbulkbpzeChecked
import GoSem.Claim
import GoSem.ClaimJoined
import GoSem.ClaimMapViews
import Derived.JoinedTies
import Derived.KernelRfl
namespace Go.Proofs.Ybulkbpze
/- THE CELL 'sum', in the pinned program and in every row, IS THE sha256 OF THE DUMP (.gsa) THAT YbulkbpzeProg.lean LOADS. Nothing in Lean hashes anything: it is a label: what it is worth is what the hold of that sum in a sandbox is worth. -/
noncomputable def Yba.pinned : Pinned := { name := "ybulkbpze", sum := "562d72f22d5cdd84eb3e308ba49e0e96fa286e66ac7286354ea614fe5a30ac4d", checked := Yba.checked }
namespace Rows
def none {H : Type} : Left H := { results := [], args := [] }

/-- 'journal.LawS3332AExact': WHATEVER THE INPUT: true; the input reads as it did. -/
def lawS3332AExactSpec : ChangeSpec := { name := "lawS3332AExact", fn := fun _ => fun
  | [d] => { results := [.lit (.bool true)], args := [d] }
  | _ => none }
def lawS3332AExactRow : OpenClaim := { program := "ybulkbpze", sum := "562d72f22d5cdd84eb3e308ba49e0e96fa286e66ac7286354ea614fe5a30ac4d", func := "example.com/countermarch/countermarch/internal/journal.LawS3332AExact", spec := "lawS3332AExact", apart := false }
def LawS3332AExactSaid : Prop := lawS3332AExactRow.holds Yba.pinned (OpenSpec.ofChange lawS3332AExactSpec)

/-- ITS FALSE NEIGHBOUR: 'it returns false'. Refute it at one input. -/
def lawS3332AExactWrong : ChangeSpec := { name := "lawS3332AExact", fn := fun _ => fun
  | [d] => { results := [.lit (.bool false)], args := [d] }
  | _ => none }
def LawS3332AExactWrongFalsely : Prop := lawS3332AExactRow.holds Yba.pinned (OpenSpec.ofChange lawS3332AExactWrong)

/-- 'journal.LawS3332AShared': WHATEVER THE INPUT: true; the input reads as it did. -/
def lawS3332ASharedSpec : ChangeSpec := { name := "lawS3332AShared", fn := fun _ => fun
  | [d1, d2] => { results := [.lit (.bool true)], args := [d1, d2] }
  | _ => none }
def lawS3332ASharedRow : OpenClaim := { program := "ybulkbpze", sum := "562d72f22d5cdd84eb3e308ba49e0e96fa286e66ac7286354ea614fe5a30ac4d", func := "example.com/countermarch/countermarch/internal/journal.LawS3332AShared", spec := "lawS3332AShared", apart := false }
def LawS3332ASharedSaid : Prop := lawS3332ASharedRow.holds Yba.pinned (OpenSpec.ofChange lawS3332ASharedSpec)

/-- ITS FALSE NEIGHBOUR: 'it returns false'. Refute it at one input. -/
def lawS3332ASharedWrong : ChangeSpec := { name := "lawS3332AShared", fn := fun _ => fun
  | [d1, d2] => { results := [.lit (.bool false)], args := [d1, d2] }
  | _ => none }
def LawS3332ASharedWrongFalsely : Prop := lawS3332ASharedRow.holds Yba.pinned (OpenSpec.ofChange lawS3332ASharedWrong)

end Rows
end Go.Proofs.Ybulkbpze
