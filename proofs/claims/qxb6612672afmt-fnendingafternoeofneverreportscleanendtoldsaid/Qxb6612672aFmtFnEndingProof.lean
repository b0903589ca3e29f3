/-
  'Rows.FnEndingAfterNoEOFNeverReportsCleanEndToldSaid': the told and tied card. The frame after the guide's worked examples Sentry, Guard, Port; the walk: Qxb6612672aFmtMain.lean; the tie as given.
-/
import Derived.Test.Qxb6612672aFmtCards
import Derived.Test.Qxb6612672aFmtTie
import Derived.Test.Qxb6612672aFmtMain
import Derived.ProofKit
import Derived.Below
import Derived.ShutString
import Derived.Stop.JoinedAt
import Derived.Stop.JoinedTold
import Derived.Stop.Texts
import Derived.Stop.LaidErr
import Derived.Stop.LaidTwo
import Derived.SevenTiedAt
namespace Go.Proofs.Qxb6612672aFmt
open Go.ChangeShapes Go.WideShapes Go.ChangeAt Go.RowKit Go.Kit
open Go.Extern.Stop Go.Stop Go.Extern
open Go.ChangeMaps (open_string shut_string)

namespace Ending
theorem own : ownKnob Tryf.prog.godebug = none := by kernel_rfl
theorem laidOut : laidOutB Tryf.pinned.checked.prog = true := by kernel_rfl
theorem stops : Tryf.pinned.checked.prog.stops = ["fmt.errorf"] := by kernel_rfl
theorem stopKnobs : Tryf.pinned.checked.prog.stopKnobs = [] := by kernel_rfl
theorem quiet (os : Os) : Stop.quiet Tryf.pinned.checked.prog os := by
  intro k hk
  rw [stopKnobs] at hk
  cases hk
theorem gE : Tryf.prog.globalNamed "io.EOF" = some 0 := by kernel_rfl
theorem gU : Tryf.prog.globalNamed "io.ErrUnexpectedEOF" = some 1 := by kernel_rfl
theorem gEType : (Tryf.prog.globals[0]?).map (·.type) = some 27 := by kernel_rfl
theorem gUType : (Tryf.prog.globals[1]?).map (·.type) = some 27 := by kernel_rfl
theorem cells43 : Tryf.prog.cellsOf 43 = 1 := by kernel_rfl
theorem cells9 : Tryf.prog.cellsOf 9 = 1 := by kernel_rfl
theorem row41 (u : TypeId) (h : Tryf.prog.typeName? 3 u = some nameE) : u = 41 :=
  typeName_ptr_named (nm := "errors.errorString") (by kernel_rfl) (by kernel_rfl) (by decide) u (h.trans (congrArg some (by decide +kernel)))

def eofS : ByteArray := ⟨#[69, 79, 70]⟩
/-- How many blocks lie before ours; a start in which the two variables read as they are listed. -/
def low (P : Program) : Nat := (World.holding P default ⟨#[], #[], []⟩).heap.size
def laidWorld (P : Program) (os : Os) : World :=
  let w0 := World.holding P os ⟨#[.cells #[.string eofS] 43, .cells #[.string ueof] 43], #[], []⟩
  { w0 with heap := (w0.heap.modify 0 fun
      | .cells _ t frozen => .cells #[.iface 41 (.pointer (some ⟨low P, 0, none⟩))] t frozen
      | o => o).modify 1 fun
      | .cells _ t frozen => .cells #[.iface 41 (.pointer (some ⟨low P + 1, 0, none⟩))] t frozen
      | o => o }
theorem laid_met (os : Os) (args : Array Value) : laidMet Tryf.prog [("io.EOF", Rows.laid_io_EOF), ("io.ErrUnexpectedEOF", Rows.laid_io_ErrUnexpectedEOF)] ((laidWorld Tryf.prog os).forCall (fun _ _ => 0) ⟨#[], args, []⟩).memory :=
  laidMet_of_run (ps := [.cell 0 0, .cell (low Tryf.prog) 0, .cell 1 0, .cell (low Tryf.prog + 1) 0]) 8 (by kernel_rfl) (by kernel_rfl) (by kernel_rfl)

abbrev spec : OpenSpec := OpenSpec.ofChange Rows.fnEndingAfterNoEOFNeverReportsCleanEndSpec

set_option maxRecDepth 100000 in
theorem lifted (os : Os) (started : os.Started) (H : Type) (enc : TypeId × Value → H) :
    ReturnsInTold none {} Tryf.checked os 3 .any Input.okWide (spec.preRow enc Tryf.prog Tryf.f3 [] false [("io.EOF", Rows.laid_io_EOF), ("io.ErrUnexpectedEOF", Rows.laid_io_ErrUnexpectedEOF)])
      (fun F => (spec.at F).post enc Tryf.prog Tryf.f3 false true false false) (aloneAtReturn Tryf.prog) nothingAlways := by
  refine returnsInTold_of_row (C := Tryf.checked) (s := spec) (by kernel_rfl) own started (by kernel_rfl) Tryf.func3
    (OpenSpec.witness_stopped_at (enc := enc) (C := Tryf.checked) false (laidWorld Tryf.prog os) #[.bool false, .string ByteArray.empty] rfl (by kernel_rfl) (by kernel_rfl) (by kernel_rfl)
      (OpenSpec.preRow_of_B rfl 8 (by kernel_rfl) (by kernel_rfl) (laid_met os _))) ?_
  intro F W base args ds gs before _ hF hval0 hW _ _ _ hL _
  have hval : ∀ (j : Nat) t v, Tryf.f3.params[j]? = some t → args[j]? = some v → Value.okWide Tryf.prog W .any base t v := hval0
  have hW' := hW
  obtain ⟨p, q, hA0, hV, rfl, hfz, hnd⟩ := hW
  have hA : DataW.TrodAll enc Tryf.prog W 0 (fun _ => true) true Tryf.f3.params.toList args.toList ds p := hA0
  rw [Tryf.params3] at hA hval
  obtain ⟨v0, v1, d0, d1, p0, p1, rfl, rfl, rfl, h0, h1⟩ := trodAll_two hA
  obtain ⟨rfl, rfl⟩ := trodVars_none hV
  obtain ⟨b, rfl, rfl, rfl⟩ := open_bool Tryf.underlying4 (hval 0 4 v0 rfl rfl) h0
  obtain ⟨s, rfl, rfl, rfl, ws⟩ := open_string Tryf.underlying9 (hval 1 9 v1 rfl rfl) h1
  obtain ⟨a0, a1, s0, s1, c0, c1, t0, t1, hv0, hv1, hc0, hs0, hz0, hc1, hs1, hz1, hne, hb0, hb1⟩ := laid_sentinels2 hL gE gEType gU gUType Tryf.underlying27 (fun u h => row41 u (h.trans (congrArg some (by decide +kernel)))) Tryf.underlying41 Tryf.underlying43 rfl rfl Tryf.underlying9 cells43 cells9
  clear hA0 hval0
  have hg0 : W.cell? ⟨0, 0, none⟩ = some (.iface 41 (.pointer (some a0))) := by simpa using World.var?_cell gE hv0 0
  have hg1 : W.cell? ⟨1, 0, none⟩ = some (.iface 41 (.pointer (some a1))) := by simpa using World.var?_cell gU hv1 0
  have hs : s1 = ueof := by
    cases s1 with
    | mk d => exact congrArg ByteArray.mk (Array.toList_inj.1 (hs1.trans rfl))
  subst hs
  have hS : Sent W a0 a1 := ⟨hg0, hg1, ⟨c0, t0, hb0⟩, ⟨hc1, c1, t1, hb1⟩, hne⟩
  refine (main_any F b s hF hS).mono fun e W' ⟨he, bel⟩ => ?_
  subst he
  exact ⟨_, rfl, _, _, _, [], _, [], hW', trodAll_mk1 (shut_bool Tryf.underlying4 _), trodAll_mk2 (shut_bool Tryf.underlying4 _) (shut_string Tryf.underlying9 ws), rfl, bel.frame _, fun h => by cases h⟩

theorem told : Rows.FnEndingAfterNoEOFNeverReportsCleanEndToldSaid :=
  Claim7.holds_of_told_tied_any_at .later 3 Tryf.f3 "fmt.errorf" [] [] _ _ _ _ _ (by kernel_rfl) rfl rfl rfl laidOut (by kernel_rfl) rfl ⟨rfl, rfl, rfl, rfl, rfl, rfl, rfl⟩ rfl rfl (by kernel_rfl) (by kernel_rfl) Tryf.func3 (by kernel_rfl)
    (of_decide_eq_true (by kernel_rfl)) (of_decide_eq_true (by kernel_rfl)) stops.symm rfl stopKnobs.symm (by kernel_rfl)
    (by kernel_rfl) (by kernel_rfl) (by kernel_rfl) (by kernel_rfl) (by kernel_rfl) (by kernel_rfl) (by kernel_rfl) (by kernel_rfl) (by kernel_rfl) rfl (by kernel_rfl) rfl rfl
    rfl rfl
    rfl (by kernel_rfl) (by kernel_rfl) (by kernel_rfl) (by decide) (by kernel_rfl) fnEndingAfterNoEOFNeverReportsCleanEnd_row_tie
    (OpenClaim.moreEntering_of (by kernel_rfl) (by kernel_rfl) (by kernel_rfl) (by kernel_rfl) (by kernel_rfl) (by kernel_rfl) (by kernel_rfl) (by kernel_rfl) (by kernel_rfl) (by kernel_rfl))
    ⟨_, WideRow.started_initial, quiet _⟩
    (fun os started _ H enc _ => lifted os started H enc)
end Ending
end Go.Proofs.Qxb6612672aFmt
