/-
  NARROWER THAN 'FOR EVERY INPUT', by the rows' own cells (each row's printed sentence says how): FnDuplicateAlwaysReports: laid.
  DERIVED. THE GIVEN ROWS OF THIS SEAT. 2 by the template 'for every input the law returns true; each argument reads behind the call as it read before'; 0 by the template 'total and deterministic' (their statements: Qxb6613641aFmtTotals.lean).
  GIVEN WITH THE SEED: the statements are not yours to turn. If you find one false, say at which input.
  Laid BY PROGRAM, IN A SANDBOX (cutbox-rows.mjs): the forced cells as the released guide's own fill.sh prints them over the translation ba27935fb69eedae… (all of the seat's roots in one cut). By AI agents, Wed Nov 11 2026. No macro, syntax, notation, axiom, sorry.
-/
import Derived.Test.Qxb6613641aFmtChecked
import GoSem.PinnedTables
import GoSem.Claim
import GoSem.ClaimJoined
import GoSem.ClaimMapViews
import Derived.JoinedTies
import Derived.KernelRfl
namespace Go.Proofs.Qxb6613641aFmt
/- THE CELL 'sum', in the pinned program and in every row, IS THE sha256 OF THE DUMP (.gsa) THAT Qxb6613641aFmtProg.lean LOADS. Nothing in Lean hashes anything: it is a label: what it is worth is what the hold of that sum in a sandbox is worth. -/
noncomputable def Tryf.pinned : Pinned := { name := "qxb6613641afmt", sum := "ba27935fb69eedaeed1c52d2c2420475543b311819700dbb7378c7f6ac58bed6", checked := Tryf.checked }
namespace Rows
def none {H : Type} : Left H := { results := [], args := [] }

/- WHAT THE LISTED PACKAGE-LEVEL VARIABLES READ AS WHEN THE CALL BEGINS. Each datum BY PROGRAM (the guide's laid-datum.mjs) off the statement by which the dump's own 'gosem.cut.vars' lays the variable. In a bare row this is a premise. The card (Qxb6613641aFmtCards.lean) ties it to the program's text. -/
def laid_unicode_utf8_acceptRanges {H : Type} : DataW H := .agg [.agg [.lit (.int .u8 128), .lit (.int .u8 191)], .agg [.lit (.int .u8 160), .lit (.int .u8 191)], .agg [.lit (.int .u8 128), .lit (.int .u8 159)], .agg [.lit (.int .u8 144), .lit (.int .u8 191)], .agg [.lit (.int .u8 128), .lit (.int .u8 143)], .agg [.lit (.int .u8 0), .lit (.int .u8 0)], .agg [.lit (.int .u8 0), .lit (.int .u8 0)], .agg [.lit (.int .u8 0), .lit (.int .u8 0)], .agg [.lit (.int .u8 0), .lit (.int .u8 0)], .agg [.lit (.int .u8 0), .lit (.int .u8 0)], .agg [.lit (.int .u8 0), .lit (.int .u8 0)], .agg [.lit (.int .u8 0), .lit (.int .u8 0)], .agg [.lit (.int .u8 0), .lit (.int .u8 0)], .agg [.lit (.int .u8 0), .lit (.int .u8 0)], .agg [.lit (.int .u8 0), .lit (.int .u8 0)], .agg [.lit (.int .u8 0), .lit (.int .u8 0)]]
/-- One of Go's own tables, pinned by name: the form's constant. -/
def laid_strconv_isGraphic : DataW Unit := Go.Pinned.isGraphic
/-- One of Go's own tables, pinned by name: the form's constant. -/
def laid_strconv_isNotPrint16 : DataW Unit := Go.Pinned.isNotPrint16
/-- One of Go's own tables, pinned by name: the form's constant. -/
def laid_strconv_isNotPrint32 : DataW Unit := Go.Pinned.isNotPrint32
/-- One of Go's own tables, pinned by name: the form's constant. -/
def laid_strconv_isPrint16 : DataW Unit := Go.Pinned.isPrint16
/-- One of Go's own tables, pinned by name: the form's constant. -/
def laid_strconv_isPrint32 : DataW Unit := Go.Pinned.isPrint32
/-- One of Go's own tables, pinned by name: the form's constant. -/
def laid_unicode_utf8_first : DataW Unit := Go.Pinned.utf8First

/-- 'zzlaws_internal_jsontext_b1.FnErrorfAlwaysReports': WHATEVER THE INPUT: true; the input reads as it did. -/
def fnErrorfAlwaysReportsSpec : ChangeSpec := { name := "fnErrorfAlwaysReports", fn := fun _ => fun
  | [d1, d2, d3] => { results := [.lit (.bool true)], args := [d1, d2, d3] }
  | _ => none }
def fnErrorfAlwaysReportsRow : OpenClaim := { program := "qxb6613641afmt", sum := "ba27935fb69eedaeed1c52d2c2420475543b311819700dbb7378c7f6ac58bed6", func := "example.com/toolcharter/toolcharter/zzlaws_internal_jsontext_b1.FnErrorfAlwaysReports", spec := "fnErrorfAlwaysReports", stops := ["fmt.Sprintf", "fmt.errorf"], inPlace := ["fmt.Sprintf", "fmt.errorf"], apart := false }
/-- NO THEOREM (fmt's text is open here; it may be false): for the released tool's asking of the row's closed facts alone. THE STATEMENT IS 'FnErrorfAlwaysReportsToldSaid' (Qxb6613641aFmtCards.lean). -/
def FnErrorfAlwaysReportsFormAsk : Prop := fnErrorfAlwaysReportsRow.holds Tryf.pinned (OpenSpec.ofChange fnErrorfAlwaysReportsSpec)

/-- ITS FALSE NEIGHBOUR: 'it returns false'. Refute it at one input. -/
def fnErrorfAlwaysReportsWrong : ChangeSpec := { name := "fnErrorfAlwaysReports", fn := fun _ => fun
  | [d1, d2, d3] => { results := [.lit (.bool false)], args := [d1, d2, d3] }
  | _ => none }
def FnErrorfAlwaysReportsWrongFormAsk : Prop := fnErrorfAlwaysReportsRow.holds Tryf.pinned (OpenSpec.ofChange fnErrorfAlwaysReportsWrong)

/-- 'zzlaws_internal_jsontext_b1.FnDuplicateAlwaysReports': WHATEVER THE INPUT: true; the input reads as it did. -/
def fnDuplicateAlwaysReportsSpec : ChangeSpec := { name := "fnDuplicateAlwaysReports", fn := fun _ => fun
  | [d1, d2] => { results := [.lit (.bool true)], args := [d1, d2] }
  | _ => none }
def fnDuplicateAlwaysReportsRow : OpenClaim := { program := "qxb6613641afmt", sum := "ba27935fb69eedaeed1c52d2c2420475543b311819700dbb7378c7f6ac58bed6", func := "example.com/toolcharter/toolcharter/zzlaws_internal_jsontext_b1.FnDuplicateAlwaysReports", spec := "fnDuplicateAlwaysReports", stops := ["fmt.Sprintf", "fmt.errorf"], inPlace := ["fmt.Sprintf", "fmt.errorf"], named := ["unicode/utf8.first", "unicode/utf8.acceptRanges", "strconv.isPrint16", "strconv.isNotPrint16", "strconv.isPrint32", "strconv.isNotPrint32", "strconv.isGraphic"], apart := false, laid := [("unicode/utf8.acceptRanges", laid_unicode_utf8_acceptRanges), ("strconv.isGraphic", laid_strconv_isGraphic), ("strconv.isNotPrint16", laid_strconv_isNotPrint16), ("strconv.isNotPrint32", laid_strconv_isNotPrint32), ("strconv.isPrint16", laid_strconv_isPrint16), ("strconv.isPrint32", laid_strconv_isPrint32), ("unicode/utf8.first", laid_unicode_utf8_first)] }
/-- NO THEOREM (fmt's text is open here; it may be false): for the released tool's asking of the row's closed facts alone. THE STATEMENT IS 'FnDuplicateAlwaysReportsToldSaid' (Qxb6613641aFmtCards.lean). -/
def FnDuplicateAlwaysReportsFormAsk : Prop := fnDuplicateAlwaysReportsRow.holds Tryf.pinned (OpenSpec.ofChange fnDuplicateAlwaysReportsSpec)

/-- ITS FALSE NEIGHBOUR: 'it returns false'. Refute it at one input. -/
def fnDuplicateAlwaysReportsWrong : ChangeSpec := { name := "fnDuplicateAlwaysReports", fn := fun _ => fun
  | [d1, d2] => { results := [.lit (.bool false)], args := [d1, d2] }
  | _ => none }
def FnDuplicateAlwaysReportsWrongFormAsk : Prop := fnDuplicateAlwaysReportsRow.holds Tryf.pinned (OpenSpec.ofChange fnDuplicateAlwaysReportsWrong)

end Rows
end Go.Proofs.Qxb6613641aFmt
