/-
  NARROWER THAN 'FOR EVERY INPUT', by the rows' own cells (each row's printed sentence says how): LawS3335CExact: laid · LawS3335CRelate: laid.
  DERIVED. THE GIVEN ROWS OF THIS SEAT. 3 by the template 'for every input the law returns true; each argument reads behind the call as it read before'; 0 by the template 'total and deterministic' (their statements: YbulkbqauFmtTotals.lean).
  GIVEN WITH THE SEED: the statements are not yours to turn. If you find one false, say at which input.
  Laid BY PROGRAM, IN A SANDBOX (cutbox-rows.mjs): the forced cells as the released guide's own fill.sh prints them over the translation 63488c7618898510… (all of the seat's roots in one cut). By AI agents, Wed Nov 11 2026. No macro, syntax, notation, axiom, sorry.
-/
import Derived.Test.YbulkbqauFmtChecked
import GoSem.Claim
import GoSem.ClaimJoined
import GoSem.ClaimMapViews
import Derived.JoinedTies
import Derived.KernelRfl
namespace Go.Proofs.YbulkbqauFmt
/- THE CELL 'sum', in the pinned program and in every row, IS THE sha256 OF THE DUMP (.gsa) THAT YbulkbqauFmtProg.lean LOADS. Nothing in Lean hashes anything: it is a label: what it is worth is what the hold of that sum in a sandbox is worth. -/
noncomputable def Ybaf.pinned : Pinned := { name := "ybulkbqaufmt", sum := "63488c7618898510f0d9b8cba0c199e45020234d08a6c530364a36904a37c33a", checked := Ybaf.checked }
namespace Rows
def none {H : Type} : Left H := { results := [], args := [] }

/- WHAT THE LISTED PACKAGE-LEVEL VARIABLES READ AS WHEN THE CALL BEGINS. Each datum BY PROGRAM (the guide's laid-datum.mjs) off the statement by which the dump's own 'gosem.cut.vars' lays the variable. In a bare row this is a premise. The card (YbulkbqauFmtCards.lean) ties it to the program's text. -/
def laid_example_com_hearsay_hearsay_modeNames {H : Type} : DataW H := .agg [.lit (.string []), .lit (.string [112, 117, 115, 104]), .lit (.string [112, 117, 108, 108]), .lit (.string [112, 117, 115, 104, 45, 112, 117, 108, 108])]
def laid_example_com_hearsay_hearsay_gossip_graphNames {H : Type} : DataW H := .agg [.lit (.string [99, 111, 109, 112, 108, 101, 116, 101]), .lit (.string [114, 105, 110, 103])]

/-- 'gossip.LawS3335BRange': WHATEVER THE INPUT: true; the input reads as it did. -/
def lawS3335BRangeSpec : ChangeSpec := { name := "lawS3335BRange", fn := fun _ => fun
  | [d1, d2] => { results := [.lit (.bool true)], args := [d1, d2] }
  | _ => none }
def lawS3335BRangeRow : OpenClaim := { program := "ybulkbqaufmt", sum := "63488c7618898510f0d9b8cba0c199e45020234d08a6c530364a36904a37c33a", func := "example.com/hearsay/hearsay/gossip.LawS3335BRange", spec := "lawS3335BRange", stops := ["fmt.Sprintf, its operands' methods called", "fmt.errorf, its operands' methods called"], inPlace := ["fmt.errorf"], unfollowed := true, recurses := true, apart := false }
/-- NO THEOREM (fmt's text is open here; it may be false): for the released tool's asking of the row's closed facts alone. THE STATEMENT IS 'LawS3335BRangeToldSaid' (YbulkbqauFmtCards.lean). -/
def LawS3335BRangeFormAsk : Prop := lawS3335BRangeRow.holds Ybaf.pinned (OpenSpec.ofChange lawS3335BRangeSpec)

/-- ITS FALSE NEIGHBOUR: 'it returns false'. Refute it at one input. -/
def lawS3335BRangeWrong : ChangeSpec := { name := "lawS3335BRange", fn := fun _ => fun
  | [d1, d2] => { results := [.lit (.bool false)], args := [d1, d2] }
  | _ => none }
def LawS3335BRangeWrongFormAsk : Prop := lawS3335BRangeRow.holds Ybaf.pinned (OpenSpec.ofChange lawS3335BRangeWrong)

/-- 'gossip.LawS3335CExact': WHATEVER THE INPUT: true; the input reads as it did. -/
def lawS3335CExactSpec : ChangeSpec := { name := "lawS3335CExact", vars := ["example.com/hearsay/hearsay/gossip.graphNames", "example.com/hearsay/hearsay.modeNames"], fn := fun _ => fun
  | [d1, d2, d3, d4, d5, g1, g2] => { results := [.lit (.bool true)], args := [d1, d2, d3, d4, d5], vars := [g1, g2] }
  | _ => none }
def lawS3335CExactRow : OpenClaim := { program := "ybulkbqaufmt", sum := "63488c7618898510f0d9b8cba0c199e45020234d08a6c530364a36904a37c33a", func := "example.com/hearsay/hearsay/gossip.LawS3335CExact", spec := "lawS3335CExact", stops := ["fmt.Sprintf, its operands' methods called", "fmt.errorf, its operands' methods called"], inPlace := ["fmt.errorf", "fmt.Sprintf", "internal/abi.NoEscape", "internal/bytealg.MakeNoZero"], unfollowed := true, recurses := true, named := ["example.com/hearsay/hearsay/gossip.graphNames", "example.com/hearsay/hearsay.modeNames"], apart := false, laid := [("example.com/hearsay/hearsay.modeNames", laid_example_com_hearsay_hearsay_modeNames), ("example.com/hearsay/hearsay/gossip.graphNames", laid_example_com_hearsay_hearsay_gossip_graphNames)] }
/-- NO THEOREM (fmt's text is open here; it may be false): for the released tool's asking of the row's closed facts alone. THE STATEMENT IS 'LawS3335CExactToldSaid' (YbulkbqauFmtCards.lean). -/
def LawS3335CExactFormAsk : Prop := lawS3335CExactRow.holds Ybaf.pinned (OpenSpec.ofChange lawS3335CExactSpec)

/-- ITS FALSE NEIGHBOUR: 'it returns false'. Refute it at one input. -/
def lawS3335CExactWrong : ChangeSpec := { name := "lawS3335CExact", vars := ["example.com/hearsay/hearsay/gossip.graphNames", "example.com/hearsay/hearsay.modeNames"], fn := fun _ => fun
  | [d1, d2, d3, d4, d5, g1, g2] => { results := [.lit (.bool false)], args := [d1, d2, d3, d4, d5], vars := [g1, g2] }
  | _ => none }
def LawS3335CExactWrongFormAsk : Prop := lawS3335CExactRow.holds Ybaf.pinned (OpenSpec.ofChange lawS3335CExactWrong)

/-- 'gossip.LawS3335CRelate': WHATEVER THE INPUT: true; the input reads as it did. -/
def lawS3335CRelateSpec : ChangeSpec := { name := "lawS3335CRelate", vars := ["example.com/hearsay/hearsay/gossip.graphNames", "example.com/hearsay/hearsay.modeNames"], fn := fun _ => fun
  | [d1, d2, d3, d4, d5, g1, g2] => { results := [.lit (.bool true)], args := [d1, d2, d3, d4, d5], vars := [g1, g2] }
  | _ => none }
def lawS3335CRelateRow : OpenClaim := { program := "ybulkbqaufmt", sum := "63488c7618898510f0d9b8cba0c199e45020234d08a6c530364a36904a37c33a", func := "example.com/hearsay/hearsay/gossip.LawS3335CRelate", spec := "lawS3335CRelate", stops := ["fmt.Sprintf, its operands' methods called", "fmt.errorf, its operands' methods called"], inPlace := ["fmt.errorf", "fmt.Sprintf", "internal/abi.NoEscape", "internal/bytealg.MakeNoZero"], unfollowed := true, recurses := true, named := ["example.com/hearsay/hearsay/gossip.graphNames", "example.com/hearsay/hearsay.modeNames"], apart := false, laid := [("example.com/hearsay/hearsay.modeNames", laid_example_com_hearsay_hearsay_modeNames), ("example.com/hearsay/hearsay/gossip.graphNames", laid_example_com_hearsay_hearsay_gossip_graphNames)] }
/-- NO THEOREM (fmt's text is open here; it may be false): for the released tool's asking of the row's closed facts alone. THE STATEMENT IS 'LawS3335CRelateToldSaid' (YbulkbqauFmtCards.lean). -/
def LawS3335CRelateFormAsk : Prop := lawS3335CRelateRow.holds Ybaf.pinned (OpenSpec.ofChange lawS3335CRelateSpec)

/-- ITS FALSE NEIGHBOUR: 'it returns false'. Refute it at one input. -/
def lawS3335CRelateWrong : ChangeSpec := { name := "lawS3335CRelate", vars := ["example.com/hearsay/hearsay/gossip.graphNames", "example.com/hearsay/hearsay.modeNames"], fn := fun _ => fun
  | [d1, d2, d3, d4, d5, g1, g2] => { results := [.lit (.bool false)], args := [d1, d2, d3, d4, d5], vars := [g1, g2] }
  | _ => none }
def LawS3335CRelateWrongFormAsk : Prop := lawS3335CRelateRow.holds Ybaf.pinned (OpenSpec.ofChange lawS3335CRelateWrong)

end Rows
end Go.Proofs.YbulkbqauFmt
