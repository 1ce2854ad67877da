/-
  No cell of these rows narrows 'for every input' (looked for: loops, veiled, ifaces, maps, wideKeys, modest, calm, conditions, laid).
  DERIVED. THE GIVEN ROWS OF THIS SEAT. 1 by the template 'for every input the law returns true; each argument reads behind the call as it read before'; 0 by the template 'total and deterministic' (their statements: YbulkbpzeFmtTotals.lean).
  GIVEN WITH THE SEED: the statements are not yours to turn. If you find one false, say at which input.
  Laid BY PROGRAM, IN A SANDBOX (cutbox-rows.mjs): the forced cells as the released guide's own fill.sh prints them over the translation daf36b023f4d4a35… (all of the seat's roots in one cut). By AI agents, Wed Nov 11 2026. No macro, syntax, notation, axiom, sorry.
-/
import Derived.Test.YbulkbpzeFmtChecked
import GoSem.Claim
import GoSem.ClaimJoined
import GoSem.ClaimMapViews
import Derived.JoinedTies
import Derived.KernelRfl
namespace Go.Proofs.YbulkbpzeFmt
/- THE CELL 'sum', in the pinned program and in every row, IS THE sha256 OF THE DUMP (.gsa) THAT YbulkbpzeFmtProg.lean LOADS. Nothing in Lean hashes anything: it is a label: what it is worth is what the hold of that sum in a sandbox is worth. -/
noncomputable def Ybaf.pinned : Pinned := { name := "ybulkbpzefmt", sum := "daf36b023f4d4a3577d460dd0974ac377d845f3cf76675ddbccebc7555fb8afb", checked := Ybaf.checked }
namespace Rows
def none {H : Type} : Left H := { results := [], args := [] }

/-- 'countermarch.LawS3332CDecides': WHATEVER THE INPUT: true; the input reads as it did. -/
def lawS3332CDecidesSpec : ChangeSpec := { name := "lawS3332CDecides", fn := fun _ => fun
  | [d1, d2, d3, d4, d5, d6, d7, d8, d9] => { results := [.lit (.bool true)], args := [d1, d2, d3, d4, d5, d6, d7, d8, d9] }
  | _ => none }
def lawS3332CDecidesRow : OpenClaim := { program := "ybulkbpzefmt", sum := "daf36b023f4d4a3577d460dd0974ac377d845f3cf76675ddbccebc7555fb8afb", func := "example.com/countermarch/countermarch.LawS3332CDecides", spec := "lawS3332CDecides", stops := ["fmt.errorf"], inPlace := ["fmt.errorf"], apart := false }
/-- NO THEOREM (fmt's text is open here; it may be false): for the released tool's asking of the row's closed facts alone. THE STATEMENT IS 'LawS3332CDecidesToldSaid' (YbulkbpzeFmtCards.lean). -/
def LawS3332CDecidesFormAsk : Prop := lawS3332CDecidesRow.holds Ybaf.pinned (OpenSpec.ofChange lawS3332CDecidesSpec)

/-- ITS FALSE NEIGHBOUR: 'it returns false'. Refute it at one input. -/
def lawS3332CDecidesWrong : ChangeSpec := { name := "lawS3332CDecides", fn := fun _ => fun
  | [d1, d2, d3, d4, d5, d6, d7, d8, d9] => { results := [.lit (.bool false)], args := [d1, d2, d3, d4, d5, d6, d7, d8, d9] }
  | _ => none }
def LawS3332CDecidesWrongFormAsk : Prop := lawS3332CDecidesRow.holds Ybaf.pinned (OpenSpec.ofChange lawS3332CDecidesWrong)

end Rows
end Go.Proofs.YbulkbpzeFmt
