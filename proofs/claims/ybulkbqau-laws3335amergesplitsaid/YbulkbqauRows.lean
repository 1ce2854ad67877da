/-
  No cell of these rows narrows 'for every input' (looked for: loops, veiled, ifaces, maps, wideKeys, modest, calm, conditions, laid).
  DERIVED. THE GIVEN ROWS OF THIS SEAT. 2 by the template 'for every input the law returns true; each argument reads behind the call as it read before'; 0 by the template 'total and deterministic' (their statements: YbulkbqauTotals.lean).
  GIVEN WITH THE SEED: the statements are not yours to turn. If you find one false, say at which input.
  Laid BY PROGRAM, IN A SANDBOX (cutbox-rows.mjs): the forced cells as the released guide's own fill.sh prints them over the translation d01d1e1ef8b1c76e… (all of the seat's roots in one cut). By AI agents, Wed Nov 11 2026. No macro, syntax, notation, axiom, sorry.
-/
import Derived.Test.YbulkbqauChecked
import GoSem.Claim
import GoSem.ClaimJoined
import GoSem.ClaimMapViews
import Derived.JoinedTies
import Derived.KernelRfl
namespace Go.Proofs.Ybulkbqau
/- THE CELL 'sum', in the pinned program and in every row, IS THE sha256 OF THE DUMP (.gsa) THAT YbulkbqauProg.lean LOADS. Nothing in Lean hashes anything: it is a label: what it is worth is what the hold of that sum in a sandbox is worth. -/
noncomputable def Yba.pinned : Pinned := { name := "ybulkbqau", sum := "d01d1e1ef8b1c76e137ea714991adcc81267aefdc623d4c8c67c531ecff3c81f", checked := Yba.checked }
namespace Rows
def none {H : Type} : Left H := { results := [], args := [] }

/-- 'sim.LawS3335AMergeSums': WHATEVER THE INPUT: true; the input reads as it did. -/
def lawS3335AMergeSumsSpec : ChangeSpec := { name := "lawS3335AMergeSums", fn := fun _ => fun
  | [d1, d2, d3, d4, d5, d6] => { results := [.lit (.bool true)], args := [d1, d2, d3, d4, d5, d6] }
  | _ => none }
def lawS3335AMergeSumsRow : OpenClaim := { program := "ybulkbqau", sum := "d01d1e1ef8b1c76e137ea714991adcc81267aefdc623d4c8c67c531ecff3c81f", func := "example.com/hearsay/hearsay/sim.LawS3335AMergeSums", spec := "lawS3335AMergeSums", inPlace := ["math/bits.Add64"], apart := false }
def LawS3335AMergeSumsSaid : Prop := lawS3335AMergeSumsRow.holds Yba.pinned (OpenSpec.ofChange lawS3335AMergeSumsSpec)

/-- ITS FALSE NEIGHBOUR: 'it returns false'. Refute it at one input. -/
def lawS3335AMergeSumsWrong : ChangeSpec := { name := "lawS3335AMergeSums", fn := fun _ => fun
  | [d1, d2, d3, d4, d5, d6] => { results := [.lit (.bool false)], args := [d1, d2, d3, d4, d5, d6] }
  | _ => none }
def LawS3335AMergeSumsWrongFalsely : Prop := lawS3335AMergeSumsRow.holds Yba.pinned (OpenSpec.ofChange lawS3335AMergeSumsWrong)

/-- 'sim.LawS3335AMergeSplit': WHATEVER THE INPUT: true; the input reads as it did. -/
def lawS3335AMergeSplitSpec : ChangeSpec := { name := "lawS3335AMergeSplit", fn := fun _ => fun
  | [d1, d2] => { results := [.lit (.bool true)], args := [d1, d2] }
  | _ => none }
def lawS3335AMergeSplitRow : OpenClaim := { program := "ybulkbqau", sum := "d01d1e1ef8b1c76e137ea714991adcc81267aefdc623d4c8c67c531ecff3c81f", func := "example.com/hearsay/hearsay/sim.LawS3335AMergeSplit", spec := "lawS3335AMergeSplit", inPlace := ["math/bits.Add64"], apart := false }
def LawS3335AMergeSplitSaid : Prop := lawS3335AMergeSplitRow.holds Yba.pinned (OpenSpec.ofChange lawS3335AMergeSplitSpec)

/-- ITS FALSE NEIGHBOUR: 'it returns false'. Refute it at one input. -/
def lawS3335AMergeSplitWrong : ChangeSpec := { name := "lawS3335AMergeSplit", fn := fun _ => fun
  | [d1, d2] => { results := [.lit (.bool false)], args := [d1, d2] }
  | _ => none }
def LawS3335AMergeSplitWrongFalsely : Prop := lawS3335AMergeSplitRow.holds Yba.pinned (OpenSpec.ofChange lawS3335AMergeSplitWrong)

end Rows
end Go.Proofs.Ybulkbqau
