/-
  'Rows.FnMovesGroupOverAnyCutSaid': the frame after the kit's shells (slices: 'Below.trod'), two slices of strings among the arguments; the walk: Qxb6612593aCut.lean.
-/
import Derived.Test.Qxb6612593aRows
import Derived.Test.Qxb6612593aCut
import Derived.WalkKit
import Derived.ProofKit
import Derived.OpenShut
import Derived.ShutString
import Derived.ChangeOld
import Derived.SliceStrings
import Derived.Below
namespace Go.Proofs.Qxb6612593a.fnMovesGroupOverAnyCut
open Go.ChangeShapes Go.WideShapes Go.ChangeAt Go.RowKit
open Go.ChangeMaps (open_string shut_string)
set_option linter.unusedVariables false

theorem own : ownKnob Try.prog.godebug = none := by kernel_rfl
theorem laidOut : laidOutB Try.prog = true := by kernel_rfl

theorem walk (a0 : Bool) (a1 : Option Addr) (l1 c1 : Nat) (t1 : List ByteArray) (a2 : Option Addr) (l2 c2 : Nat) (t2 : List ByteArray) (a3 : Int) (a4 : ByteArray) (w : World)
    (h1 : StrRow w a1 l1 t1) (n1 : a1 = none ∧ l1 = 0 ∧ c1 = 0 ∨ ∃ x, a1 = some x) (h2 : StrRow w a2 l2 t2) (n2 : a2 = none ∧ l2 = 0 ∧ c2 = 0 ∨ ∃ x, a2 = some x) :
    Calls Try.prog 4 #[.bool a0, .slice a1 l1 c1, .slice a2 l2 c2, .int .i64 a3, .string a4] w fun e w' => e = .returned (.bool true) ∧ Below w.heap.size w w' := by
  by_cases h : l1 ≤ 65536 ∧ l2 ≤ 65536 ∧ a4.size ≤ 65536
  · exact cut_main a0 a1 a2 l1 c1 l2 c2 a3 a4 t1 t2 w h1 h2 n1 n2 h.1 h.2.1 h.2.2
  · exact cut_big a0 a1 a2 l1 c1 l2 c2 a3 a4 t1 t2 w h1 h2 (by omega)

/-- What the walk is told of a slice of strings that came in. -/
theorem opened {H : Type} {enc : TypeId × Value → H} {W : World} {d : DataW H} {p : List MemPlace} {a : Option Addr} {l c : Nat}
    (h : DataW.Trod enc Try.prog W 0 (fun _ => true) true 25 (.slice a l c) d p) : ∃ ts, StrRow W a l ts ∧ (a = none ∧ l = 0 ∧ c = 0 ∨ ∃ x, a = some x) := by
  obtain ⟨fuel, hf⟩ := h
  rcases open_strings Try.underlying25 Try.underlying9 (by kernel_rfl) hf with ⟨hcs, _⟩ | ⟨x, l', c', ss, hcs, _, hl, hm, hz, _, hcell, hws⟩
  · simp [Value.cells] at hcs
    obtain ⟨rfl, rfl, rfl⟩ := hcs
    exact ⟨[], ⟨rfl, .inl rfl⟩, .inl ⟨rfl, rfl, rfl⟩⟩
  · simp [Value.cells] at hcs
    obtain ⟨rfl, rfl, rfl⟩ := hcs
    refine ⟨ss.take l, ⟨by simp at hz; simp; omega, .inr ⟨x, rfl, fun i hi => ?_⟩⟩, .inr ⟨x, rfl⟩⟩
    simp at hz
    rw [hcell i (by omega), List.getD_eq_getElem?_getD, List.getD_eq_getElem?_getD, List.getElem?_take, if_pos hi]

set_option maxRecDepth 100000 in
theorem lifted (os : Os) (started : os.Started) (H : Type) (enc : TypeId × Value → H) :
    ReturnsInHanded {} Try.checked os 4 .any (Rows.fnMovesGroupOverAnyCutSpec.pre6 enc Try.prog Try.f4 Rows.fnMovesGroupOverAnyCutRow.domain false) (Rows.fnMovesGroupOverAnyCutSpec.post enc Try.prog Try.f4 false true false false) := by
  refine returnsInHanded_of_change (C := Try.checked) own started (by kernel_rfl) Try.func4
    (ChangeSpec.witness6 (enc := enc) (C := Try.checked) false ⟨#[], #[.bool false, .slice none 0 0, .slice none 0 0, .int .i64 0, .string ByteArray.empty], []⟩ 8 (by kernel_rfl) (by kernel_rfl) (by kernel_rfl) (by kernel_rfl)) ?_
  intro W base args ds gs before hval0 hW hcnd _
  have hval : ∀ (j : Nat) t v, Try.f4.params[j]? = some t → args[j]? = some v → Value.okWide Try.prog W .any base t v := hval0
  have hW' := hW
  obtain ⟨p, q, hA0, hV, rfl, hfz, hnd⟩ := hW
  have hA : DataW.TrodAll enc Try.prog W 0 (fun _ => true) true Try.f4.params.toList args.toList ds p := hA0
  rw [Try.params4] at hA hval
  obtain ⟨v0, vs0, d0, ds0, p0, q0, hargs, rfl, rfl, h0, r0⟩ := trodAll_cons hA
  obtain ⟨v1, vs1, d1, ds1, p1, q1, rfl, rfl, rfl, h1, r1⟩ := trodAll_cons r0
  obtain ⟨v2, vs2, d2, ds2, p2, q2, rfl, rfl, rfl, h2, r2⟩ := trodAll_cons r1
  obtain ⟨v3, vs3, d3, ds3, p3, q3, rfl, rfl, rfl, h3, r3⟩ := trodAll_cons r2
  obtain ⟨v4, vs4, d4, ds4, p4, q4, rfl, rfl, rfl, h4, r4⟩ := trodAll_cons r3
  obtain ⟨rfl, rfl, rfl⟩ := trodAll_nil r4
  obtain rfl : args = #[v0, v1, v2, v3, v4] := by cases args; simp_all
  obtain ⟨rfl, rfl⟩ := trodVars_none hV
  obtain ⟨a0, rfl, rfl, rfl⟩ := open_bool Try.underlying4 (hval 0 4 v0 rfl rfl) h0
  obtain ⟨a1, l1, c1, rfl⟩ := okWide_slice Try.underlying25 (hval 1 25 v1 rfl rfl)
  obtain ⟨a2, l2, c2, rfl⟩ := okWide_slice Try.underlying25 (hval 2 25 v2 rfl rfl)
  obtain ⟨a3, rfl, rfl, rfl, w3⟩ := open_int Try.underlying3 (hval 3 3 v3 rfl rfl) h3
  obtain ⟨a4, rfl, rfl, rfl, w4⟩ := open_string Try.underlying9 (hval 4 9 v4 rfl rfl) h4
  have lt1 : ∀ x ∈ p1, x.block < W.heap.size := by obtain ⟨m, hm⟩ := h1; exact DataW.trod_lt m _ _ _ hm
  have lt2 : ∀ x ∈ p2, x.block < W.heap.size := by obtain ⟨m, hm⟩ := h2; exact DataW.trod_lt m _ _ _ hm
  obtain ⟨t1, g1, n1⟩ := opened h1
  obtain ⟨t2, g2, n2⟩ := opened h2
  clear hA0 hval0
  refine (walk a0 a1 l1 c1 t1 a2 l2 c2 t2 a3 a4 W g1 n1 g2 n2).mono fun e W' ⟨he, bel⟩ => ?_
  subst he
  exact ⟨_, rfl, _, _, _, [], _, [], hW', trodAll_mk1 (shut_bool Try.underlying4 _), (trodAll_cons_mk (shut_bool Try.underlying4 _) (trodAll_cons_mk (Below.trod laidOut (by kernel_rfl) (of_decide_eq_true (by kernel_rfl)) h1 bel lt1) (trodAll_cons_mk (Below.trod laidOut (by kernel_rfl) (of_decide_eq_true (by kernel_rfl)) h2 bel lt2) (trodAll_cons_mk (shut_int Try.underlying3 w3) (trodAll_cons_mk (shut_string Try.underlying9 w4) trodAll_mk0))))), rfl, bel.frame _, fun h => by cases h⟩

theorem over : Rows.fnMovesGroupOverAnyCutRow.holds Try.pinned (OpenSpec.ofChange Rows.fnMovesGroupOverAnyCutSpec) :=
  OpenClaim.holds_of_wide 4 Try.f4 rfl rfl rfl rfl rfl rfl rfl ⟨rfl, rfl, rfl, rfl, rfl⟩ rfl rfl rfl rfl rfl (by kernel_rfl) Try.func4 (by kernel_rfl)
    (of_decide_eq_true (by kernel_rfl)) (by unfold Func.isWrapper; first | (rw [if_pos (by decide +kernel)]; kernel_rfl) | (rw [if_neg (by decide +kernel)]; exact ⟨rfl, rfl⟩))
    (fun os started H enc _ => lifted os started H enc)

/-- THE STATEMENT -/
theorem proved : Rows.FnMovesGroupOverAnyCutSaid := over
end Go.Proofs.Qxb6612593a.fnMovesGroupOverAnyCut
