/-
  NARROWER THAN 'FOR EVERY INPUT', by the rows' own cells (each row's printed sentence says how): FnEndingAfterNoEOFNeverReportsCleanEnd: laid.
  DERIVED. THE GIVEN ROWS OF THIS SEAT. 1 by the template 'for every input the law returns true; each argument reads behind the call as it read before'; 0 by the template 'total and deterministic' (their statements: Qxb6612672aFmtTotals.lean).
  GIVEN WITH THE SEED: the statements are not yours to turn. If you find one false, say at which input.
  Laid BY PROGRAM, IN A SANDBOX (cutbox-rows.mjs): the forced cells as the released guide's own fill.sh prints them over the translation 7bb7ae107faa6e7c… (all of the seat's roots in one cut). By AI agents, Wed Nov 11 2026. No macro, syntax, notation, axiom, sorry.
-/
import Derived.Test.Qxb6612672aFmtChecked
import GoSem.Claim
import GoSem.ClaimJoined
import GoSem.ClaimMapViews
import Derived.JoinedTies
import Derived.KernelRfl
namespace Go.Proofs.Qxb6612672aFmt
/- THE CELL 'sum', in the pinned program and in every row, IS THE sha256 OF THE DUMP (.gsa) THAT Qxb6612672aFmtProg.lean LOADS. Nothing in Lean hashes anything: it is a label: what it is worth is what the hold of that sum in a sandbox is worth. -/
noncomputable def Tryf.pinned : Pinned := { name := "qxb6612672afmt", sum := "7bb7ae107faa6e7c3c24860f31a3c39459eaad05c9fe1b61d817be0aec11cac8", checked := Tryf.checked }
namespace Rows
def none {H : Type} : Left H := { results := [], args := [] }

/- WHAT THE LISTED PACKAGE-LEVEL VARIABLES READ AS WHEN THE CALL BEGINS. Each datum BY PROGRAM (the guide's laid-datum.mjs) off the statement by which the dump's own 'gosem.cut.vars' lays the variable. In a bare row this is a premise. The card (Qxb6612672aFmtCards.lean) ties it to the program's text. -/
def laid_io_EOF {H : Type} : DataW H := .iface "*errors.errorString" (.ptr (.agg [.lit (.string [69, 79, 70])]))
def laid_io_ErrUnexpectedEOF {H : Type} : DataW H := .iface "*errors.errorString" (.ptr (.agg [.lit (.string [117, 110, 101, 120, 112, 101, 99, 116, 101, 100, 32, 69, 79, 70])]))

/-- 'zzlaws_transport_b1.FnEndingAfterNoEOFNeverReportsCleanEnd': WHATEVER THE INPUT: true; the input reads as it did. -/
def fnEndingAfterNoEOFNeverReportsCleanEndSpec : ChangeSpec := { name := "fnEndingAfterNoEOFNeverReportsCleanEnd", fn := fun _ => fun
  | [d1, d2] => { results := [.lit (.bool true)], args := [d1, d2] }
  | _ => none }
def fnEndingAfterNoEOFNeverReportsCleanEndRow : OpenClaim := { program := "qxb6612672afmt", sum := "7bb7ae107faa6e7c3c24860f31a3c39459eaad05c9fe1b61d817be0aec11cac8", func := "example.com/beforehand/beforehand/zzlaws_transport_b1.FnEndingAfterNoEOFNeverReportsCleanEnd", spec := "fnEndingAfterNoEOFNeverReportsCleanEnd", stops := ["fmt.errorf"], inPlace := ["fmt.errorf", "internal/reflectlite.TypeOf"], unfollowed := true, recurses := true, named := ["io.EOF", "io.ErrUnexpectedEOF"], apart := false, laid := [("io.EOF", laid_io_EOF), ("io.ErrUnexpectedEOF", laid_io_ErrUnexpectedEOF)] }
/-- NO THEOREM (fmt's text is open here; it may be false): for the released tool's asking of the row's closed facts alone. THE STATEMENT IS 'FnEndingAfterNoEOFNeverReportsCleanEndToldSaid' (Qxb6612672aFmtCards.lean). -/
def FnEndingAfterNoEOFNeverReportsCleanEndFormAsk : Prop := fnEndingAfterNoEOFNeverReportsCleanEndRow.holds Tryf.pinned (OpenSpec.ofChange fnEndingAfterNoEOFNeverReportsCleanEndSpec)

/-- ITS FALSE NEIGHBOUR: 'it returns false'. Refute it at one input. -/
def fnEndingAfterNoEOFNeverReportsCleanEndWrong : ChangeSpec := { name := "fnEndingAfterNoEOFNeverReportsCleanEnd", fn := fun _ => fun
  | [d1, d2] => { results := [.lit (.bool false)], args := [d1, d2] }
  | _ => none }
def FnEndingAfterNoEOFNeverReportsCleanEndWrongFormAsk : Prop := fnEndingAfterNoEOFNeverReportsCleanEndRow.holds Tryf.pinned (OpenSpec.ofChange fnEndingAfterNoEOFNeverReportsCleanEndWrong)

end Rows
end Go.Proofs.Qxb6612672aFmt
