/-
  DERIVED. GIVEN WITH THE SEED: THE CARDS: each row of Qxb6612672aFmtRows.lean that lists a variable, with what it lists TIED to the program's text (the seventh form; the later family's looks); each row that meets fmt, with fmt's text TOLD by the authors' own Lean function (tested against real Go, not proved from fmt's source: count such statements apart). THE CARD IS WHAT COUNTS. Prove the row's statement (the work); the ties are given (Qxb6612672aFmtTie.lean); close each card by the builder's one call (the guide's Derived/Test/ToyasCard.lean, 'card_holds'). Laid BY PROGRAM, IN A SANDBOX (cutbox-door.mjs). By AI agents, Wed Nov 11 2026. No macro, syntax, notation, axiom, sorry.
-/
import Derived.Test.Qxb6612672aFmtRows
import GoSem.ClaimSeven
namespace Go.Proofs.Qxb6612672aFmt
namespace Rows

/-- THE TOLD AND TIED CARD OF 'zzlaws_transport_b1.FnEndingAfterNoEOFNeverReportsCleanEnd'. -/
def fnEndingAfterNoEOFNeverReportsCleanEndCard : Claim7 := { stood := { row := fnEndingAfterNoEOFNeverReportsCleanEndRow, standIns := [], harness := (true, "33b1bba7f226ba1a528bfa87234b8a8e21919ed18146624a7a7fd47bb21f2518"), looks := true }, told := true, laidByText := true, laidKinds := [.sentinel, .sentinel], laidTests := true, laidLooks := .later, goes := false }
def FnEndingAfterNoEOFNeverReportsCleanEndToldSaid : Prop := Claim7.holds Tryf.pinned (.plain (OpenSpec.ofChange fnEndingAfterNoEOFNeverReportsCleanEndSpec)) fnEndingAfterNoEOFNeverReportsCleanEndCard
/-- ITS FALSE NEIGHBOUR. Refute it at one input. -/
def FnEndingAfterNoEOFNeverReportsCleanEndToldWrongFalsely : Prop := Claim7.holds Tryf.pinned (.plain (OpenSpec.ofChange fnEndingAfterNoEOFNeverReportsCleanEndWrong)) fnEndingAfterNoEOFNeverReportsCleanEndCard
end Rows
end Go.Proofs.Qxb6612672aFmt
