/-
  NARROWER THAN 'FOR EVERY INPUT', by the rows' own cells (each row's printed sentence says how): LawS5200BTable: laid · LawS5200BCheck: laid.
  DERIVED. THE GIVEN ROWS OF THIS SEAT. 3 by the template 'for every input the law returns true; each argument reads behind the call as it read before'; 0 by the template 'total and deterministic' (their statements: YbulkdcraFmtTotals.lean).
  GIVEN WITH THE SEED: the statements are not yours to turn. If you find one false, say at which input.
  Laid BY PROGRAM, IN A SANDBOX (cutbox-rows.mjs): the forced cells as the released guide's own fill.sh prints them over the translation 4fe2fa58b964c6d5… (all of the seat's roots in one cut). By AI agents, Wed Nov 11 2026. No macro, syntax, notation, axiom, sorry.
-/
import Derived.Test.YbulkdcraFmtChecked
import GoSem.Claim
import GoSem.ClaimJoined
import GoSem.ClaimMapViews
import Derived.JoinedTies
import Derived.KernelRfl
namespace Go.Proofs.YbulkdcraFmt
/- THE CELL 'sum', in the pinned program and in every row, IS THE sha256 OF THE DUMP (.gsa) THAT YbulkdcraFmtProg.lean LOADS. Nothing in Lean hashes anything: it is a label: what it is worth is what the hold of that sum in a sandbox is worth. -/
noncomputable def Ybaf.pinned : Pinned := { name := "ybulkdcrafmt", sum := "4fe2fa58b964c6d5447c00e2a6adc459cd4f13088b5cc9332cf86f17a9104f98", checked := Ybaf.checked }
namespace Rows
def none {H : Type} : Left H := { results := [], args := [] }

/- WHAT THE LISTED PACKAGE-LEVEL VARIABLES READ AS WHEN THE CALL BEGINS. Each datum BY PROGRAM (the guide's laid-datum.mjs) off the statement by which the dump's own 'gosem.cut.vars' lays the variable. In a bare row this is a premise. The card (YbulkdcraFmtCards.lean) ties it to the program's text. -/
def laid_example_com_blobsmith_blobsmith_algorithms {H : Type} : DataW H := .slice [.agg [.lit (.int .u32 41984), .lit (.string [67, 65, 76, 71, 95, 82, 83, 65, 95, 75, 69, 89, 88]), .lit (.int .i64 0), .lit (.int .i64 0)], .agg [.lit (.int .u32 9216), .lit (.string [67, 65, 76, 71, 95, 82, 83, 65, 95, 83, 73, 71, 78]), .lit (.int .i64 0), .lit (.int .i64 0)], .agg [.lit (.int .u32 8704), .lit (.string [67, 65, 76, 71, 95, 68, 83, 83, 95, 83, 73, 71, 78]), .lit (.int .i64 0), .lit (.int .i64 0)], .agg [.lit (.int .u32 43521), .lit (.string [67, 65, 76, 71, 95, 68, 72, 95, 83, 70]), .lit (.int .i64 0), .lit (.int .i64 0)], .agg [.lit (.int .u32 43522), .lit (.string [67, 65, 76, 71, 95, 68, 72, 95, 69, 80, 72, 69, 77]), .lit (.int .i64 0), .lit (.int .i64 0)], .agg [.lit (.int .u32 26113), .lit (.string [67, 65, 76, 71, 95, 68, 69, 83]), .lit (.int .i64 8), .lit (.int .i64 8)], .agg [.lit (.int .u32 26114), .lit (.string [67, 65, 76, 71, 95, 82, 67, 50]), .lit (.int .i64 5), .lit (.int .i64 16)], .agg [.lit (.int .u32 26115), .lit (.string [67, 65, 76, 71, 95, 51, 68, 69, 83]), .lit (.int .i64 24), .lit (.int .i64 24)], .agg [.lit (.int .u32 26121), .lit (.string [67, 65, 76, 71, 95, 51, 68, 69, 83, 95, 49, 49, 50]), .lit (.int .i64 16), .lit (.int .i64 16)], .agg [.lit (.int .u32 26126), .lit (.string [67, 65, 76, 71, 95, 65, 69, 83, 95, 49, 50, 56]), .lit (.int .i64 16), .lit (.int .i64 16)], .agg [.lit (.int .u32 26127), .lit (.string [67, 65, 76, 71, 95, 65, 69, 83, 95, 49, 57, 50]), .lit (.int .i64 24), .lit (.int .i64 24)], .agg [.lit (.int .u32 26128), .lit (.string [67, 65, 76, 71, 95, 65, 69, 83, 95, 50, 53, 54]), .lit (.int .i64 32), .lit (.int .i64 32)], .agg [.lit (.int .u32 26625), .lit (.string [67, 65, 76, 71, 95, 82, 67, 52]), .lit (.int .i64 5), .lit (.int .i64 16)]] []

/-- 'blobsmith.LawS5200AAppend': WHATEVER THE INPUT: true; the input reads as it did. -/
def lawS5200AAppendSpec : ChangeSpec := { name := "lawS5200AAppend", fn := fun _ => fun
  | [d1, d2, d3, d4, d5] => { results := [.lit (.bool true)], args := [d1, d2, d3, d4, d5] }
  | _ => none }
def lawS5200AAppendRow : OpenClaim := { program := "ybulkdcrafmt", sum := "4fe2fa58b964c6d5447c00e2a6adc459cd4f13088b5cc9332cf86f17a9104f98", func := "example.com/blobsmith/blobsmith.LawS5200AAppend", spec := "lawS5200AAppend", stops := ["fmt.errorf, its operands' methods called", "fmt.Sprintf"], inPlace := ["fmt.errorf"], unfollowed := true, recurses := true, apart := false }
/-- NO THEOREM (fmt's text is open here; it may be false): for the released tool's asking of the row's closed facts alone. THE STATEMENT IS 'LawS5200AAppendToldSaid' (YbulkdcraFmtCards.lean). -/
def LawS5200AAppendFormAsk : Prop := lawS5200AAppendRow.holds Ybaf.pinned (OpenSpec.ofChange lawS5200AAppendSpec)

/-- ITS FALSE NEIGHBOUR: 'it returns false'. Refute it at one input. -/
def lawS5200AAppendWrong : ChangeSpec := { name := "lawS5200AAppend", fn := fun _ => fun
  | [d1, d2, d3, d4, d5] => { results := [.lit (.bool false)], args := [d1, d2, d3, d4, d5] }
  | _ => none }
def LawS5200AAppendWrongFormAsk : Prop := lawS5200AAppendRow.holds Ybaf.pinned (OpenSpec.ofChange lawS5200AAppendWrong)

/-- 'blobsmith.LawS5200BTable': WHATEVER THE INPUT: true; the input reads as it did. -/
def lawS5200BTableSpec : ChangeSpec := { name := "lawS5200BTable", vars := ["example.com/blobsmith/blobsmith.algorithms"], fn := fun _ => fun
  | [d1, d2, g1] => { results := [.lit (.bool true)], args := [d1, d2], vars := [g1] }
  | _ => none }
def lawS5200BTableRow : OpenClaim := { program := "ybulkdcrafmt", sum := "4fe2fa58b964c6d5447c00e2a6adc459cd4f13088b5cc9332cf86f17a9104f98", func := "example.com/blobsmith/blobsmith.LawS5200BTable", spec := "lawS5200BTable", stops := ["fmt.errorf, its operands' methods called", "fmt.Sprintf"], inPlace := ["internal/abi.NoEscape", "internal/bytealg.MakeNoZero", "fmt.errorf"], unfollowed := true, recurses := true, named := ["example.com/blobsmith/blobsmith.algorithms"], apart := false, laid := [("example.com/blobsmith/blobsmith.algorithms", laid_example_com_blobsmith_blobsmith_algorithms)] }
/-- NO THEOREM (fmt's text is open here; it may be false): for the released tool's asking of the row's closed facts alone. THE STATEMENT IS 'LawS5200BTableToldSaid' (YbulkdcraFmtCards.lean). -/
def LawS5200BTableFormAsk : Prop := lawS5200BTableRow.holds Ybaf.pinned (OpenSpec.ofChange lawS5200BTableSpec)

/-- ITS FALSE NEIGHBOUR: 'it returns false'. Refute it at one input. -/
def lawS5200BTableWrong : ChangeSpec := { name := "lawS5200BTable", vars := ["example.com/blobsmith/blobsmith.algorithms"], fn := fun _ => fun
  | [d1, d2, g1] => { results := [.lit (.bool false)], args := [d1, d2], vars := [g1] }
  | _ => none }
def LawS5200BTableWrongFormAsk : Prop := lawS5200BTableRow.holds Ybaf.pinned (OpenSpec.ofChange lawS5200BTableWrong)

/-- 'blobsmith.LawS5200BCheck': WHATEVER THE INPUT: true; the input reads as it did. -/
def lawS5200BCheckSpec : ChangeSpec := { name := "lawS5200BCheck", vars := ["example.com/blobsmith/blobsmith.algorithms"], fn := fun _ => fun
  | [d1, d2, d3, g1] => { results := [.lit (.bool true)], args := [d1, d2, d3], vars := [g1] }
  | _ => none }
def lawS5200BCheckRow : OpenClaim := { program := "ybulkdcrafmt", sum := "4fe2fa58b964c6d5447c00e2a6adc459cd4f13088b5cc9332cf86f17a9104f98", func := "example.com/blobsmith/blobsmith.LawS5200BCheck", spec := "lawS5200BCheck", stops := ["fmt.errorf, its operands' methods called", "fmt.Sprintf"], inPlace := ["internal/abi.NoEscape", "internal/bytealg.MakeNoZero", "fmt.errorf"], unfollowed := true, recurses := true, named := ["example.com/blobsmith/blobsmith.algorithms"], apart := false, laid := [("example.com/blobsmith/blobsmith.algorithms", laid_example_com_blobsmith_blobsmith_algorithms)] }
/-- NO THEOREM (fmt's text is open here; it may be false): for the released tool's asking of the row's closed facts alone. THE STATEMENT IS 'LawS5200BCheckToldSaid' (YbulkdcraFmtCards.lean). -/
def LawS5200BCheckFormAsk : Prop := lawS5200BCheckRow.holds Ybaf.pinned (OpenSpec.ofChange lawS5200BCheckSpec)

/-- ITS FALSE NEIGHBOUR: 'it returns false'. Refute it at one input. -/
def lawS5200BCheckWrong : ChangeSpec := { name := "lawS5200BCheck", vars := ["example.com/blobsmith/blobsmith.algorithms"], fn := fun _ => fun
  | [d1, d2, d3, g1] => { results := [.lit (.bool false)], args := [d1, d2, d3], vars := [g1] }
  | _ => none }
def LawS5200BCheckWrongFormAsk : Prop := lawS5200BCheckRow.holds Ybaf.pinned (OpenSpec.ofChange lawS5200BCheckWrong)

end Rows
end Go.Proofs.YbulkdcraFmt
