/-
  DERIVED. GIVEN WITH THE SEED: THE CARDS: each row of Qxb6613641aFmtRows.lean that lists a variable, with what it lists TIED to the program's text (the seventh form; the later family's looks); each row that meets fmt, with fmt's text TOLD by the authors' own Lean function (tested against real Go, not proved from fmt's source: count such statements apart). THE CARD IS WHAT COUNTS. Prove the row's statement (the work); the ties are given (Qxb6613641aFmtTie.lean); close each card by the builder's one call (the guide's Derived/Test/ToyasCard.lean, 'card_holds'). Laid BY PROGRAM, IN A SANDBOX (cutbox-door.mjs). By AI agents, Wed Nov 11 2026. No macro, syntax, notation, axiom, sorry.
-/
import Derived.Test.Qxb6613641aFmtRows
import GoSem.ClaimSeven
namespace Go.Proofs.Qxb6613641aFmt
namespace Rows

/-- THE TOLD CARD OF 'zzlaws_internal_jsontext_b1.FnErrorfAlwaysReports'. -/
def fnErrorfAlwaysReportsCard : Claim7 := { stood := { row := fnErrorfAlwaysReportsRow, standIns := [], harness := (true, "085a9353014e21a6135a27f436ff625637eb0c84b7676845fad1e5a5ddab9894"), looks := false }, told := true, goes := false }
def FnErrorfAlwaysReportsToldSaid : Prop := Claim7.holds Tryf.pinned (.plain (OpenSpec.ofChange fnErrorfAlwaysReportsSpec)) fnErrorfAlwaysReportsCard
/-- ITS FALSE NEIGHBOUR. Refute it at one input. -/
def FnErrorfAlwaysReportsToldWrongFalsely : Prop := Claim7.holds Tryf.pinned (.plain (OpenSpec.ofChange fnErrorfAlwaysReportsWrong)) fnErrorfAlwaysReportsCard

/-- THE TOLD AND TIED CARD OF 'zzlaws_internal_jsontext_b1.FnDuplicateAlwaysReports'. -/
def fnDuplicateAlwaysReportsCard : Claim7 := { stood := { row := fnDuplicateAlwaysReportsRow, standIns := [], harness := (true, "085a9353014e21a6135a27f436ff625637eb0c84b7676845fad1e5a5ddab9894"), looks := false }, told := true, laidByText := true, laidKinds := [.data, .pinned, .pinned, .pinned, .pinned, .pinned, .pinned], laidTests := true, laidLooks := .later, goes := false }
def FnDuplicateAlwaysReportsToldSaid : Prop := Claim7.holds Tryf.pinned (.plain (OpenSpec.ofChange fnDuplicateAlwaysReportsSpec)) fnDuplicateAlwaysReportsCard
/-- ITS FALSE NEIGHBOUR. Refute it at one input. -/
def FnDuplicateAlwaysReportsToldWrongFalsely : Prop := Claim7.holds Tryf.pinned (.plain (OpenSpec.ofChange fnDuplicateAlwaysReportsWrong)) fnDuplicateAlwaysReportsCard
end Rows
end Go.Proofs.Qxb6613641aFmt
