/-
  'ZZversionSize', and THE WALK OF 'FnVersionSizeIsBytesAboveEmptyVersion'.
-/
import Derived.Test.Qxb6612598aRows
import Derived.WalkKit
import Derived.ProofKit
import Derived.Below
import Derived.WalkSpells
import Derived.WalkSmall
import Derived.Laws.CopyOwn
namespace Go.Proofs.Qxb6612598a
open Go.RowKit

theorem info5 : (Try.prog.info? 5).map (fun i => (i.zero, i.size, i.bytes)) = some (some (.int .u8 0), 1, 1) := by kernel_rfl
theorem size5 : (Try.prog.info? 5).map (·.size) = some 1 := by kernel_rfl

/-- 'copy(dst, src)', dst a row of the call's own, both of n elements of one cell. -/
theorem wpList_copy_full {P : Program} {w : World} {ops : Array Oper} {rest : List Oper} {o : Oper} {a : Act} {Q : Exit → Act → World → Prop} (hgd : o.guard = none) (d s : Operand) (dT sT : TypeId)
    (ho : o.op = .call { callee := .builtin .copy, args := #[d, s], argTypes := #[dT, sT] }) (elem : TypeId) (hu : P.underlying dT = some (.slice elem)) (hsz : (P.info? elem).map (·.size) = some 1)
    (base e g n dCap : Nat) (xs : List Value) (sp : Option Addr) (sCap : Nat) (hd : a.eval d = .slice (some ⟨g, 0, none⟩) n dCap) (hs : a.eval s = .slice sp n sCap)
    (hown : w.ownsRow base e 1 (.slice (some ⟨g, 0, none⟩) n dCap) n xs) (cs : List Value) (hn : cs.length = n)
    (hsrc : n = 0 ∨ ∃ ad, sp = some ad ∧ ∀ j v, cs[j]? = some v → w.cell? (ad.add j) = some v) (h1 : ∀ v ∈ cs, v.oneCell' = true)
    (h : ∀ w', w'.ownsRow base e 1 (.slice (some ⟨g, 0, none⟩) n dCap) n cs → w.grownBy w' (some g) → wpList P ops Q rest (a.put o.dst (goInt n)) w') :
    wpList P ops Q (o :: rest) a w := by
  by_cases h0 : n = 0
  · subst h0
    obtain rfl : cs = [] := List.eq_nil_of_length_eq_zero hn
    refine wpList_copy_nothing hgd d s dT sT ho elem hu hsz _ sp 0 dCap 0 sCap hd hs rfl ?_
    refine h w ?_ (World.grownBy.refl _ _)
    have hx : xs = [] := by simpa using hown.1
    rw [hx] at hown
    exact hown
  · obtain ⟨ad, rfl, hsrc'⟩ := hsrc.resolve_left h0
    rcases hown.2 with ⟨hv, _⟩ | ⟨g', cap', cur, hv, hB, hg, hnc, hcm, hcs, htk⟩
    · simp at hv
    · simp only [Value.slice.injEq, Option.some.injEq, Addr.mk.injEq, and_true, true_and] at hv
      obtain ⟨rfl, rfl⟩ := hv
      refine wpList_copy_own hgd d s dT sT ho elem hu hsz g 0 n dCap ad n sCap hd hs cur e hg cs (by rw [hn]; exact (Nat.min_self n).symm) hsrc' (by omega) h1 ?_
      rw [hn]
      refine h _ ⟨by omega, .inr ⟨g, dCap, _, rfl, hB, setRow_heap w g cur _ e _ hg, hnc, hcm, ?_, ?_⟩⟩ ⟨rfl, rfl, rfl, by simp [World.setRow], fun k _ hk => setRow_other w g k _ (fun e => hk (by simp [e]))⟩
      · simp; omega
      · simp [← hn]

theorem two_boxes (w : World) (o1 o2 : Obj) : Below w.heap.size w ((w.alloc o1).alloc o2) := ((Below.refl _ w).alloc (Nat.le_refl _) _).alloc (by simp) _

set_option maxRecDepth 100000 in
set_option maxHeartbeats 1000000 in
theorem versionSize_any (a b : Option Addr) (la ca lb cb : Nat) (d : Bool) (w : World) (ha : la ≤ 1048576) (hb : lb ≤ 1048576) :
    Calls Try.prog 7 #[.slice a la ca, .agg #[.slice b lb cb, .bool d]] w fun e w' => e = .returned (.int .i64 (la + lb + 144)) ∧ Below w.heap.size w w' := by
  have ha' : (la : Int) ≤ 1048576 := by omega
  have hb' : (lb : Int) ≤ 1048576 := by omega
  go_enter Try.func7, Try.ntmps7
  go_wp2
  go_ret
  exact ⟨rfl, two_boxes _ _ _⟩

/-- A slice of bytes that came in: its cells. -/
def ByteRow (w : World) (a : Option Addr) (n : Nat) (cs : List Value) : Prop :=
  cs.length = n ∧ (∀ v ∈ cs, v.oneCell' = true) ∧ (n = 0 ∨ ∃ ad, a = some ad ∧ ∀ j v, cs[j]? = some v → w.cell? (ad.add j) = some v)

set_option maxRecDepth 100000 in
set_option maxHeartbeats 1000000 in
theorem size_main (a b : Option Addr) (la ca lb cb : Nat) (d : Bool) (cs : List Value) (w : World) (ha : ByteRow w a la cs) (na : a = none ∧ la = 0 ∧ ca = 0 ∨ ∃ x, a = some x) (hl : la + lb ≤ 1048576) :
    Calls Try.prog 3 #[.slice a la ca, .slice b lb cb, .bool d] w fun e w' => e = .returned (.bool true) ∧ Below w.heap.size w w' := by
  have HA : Hid (ByteRow w a la cs) := ha
  have NA : Hid (a = none ∧ la = 0 ∧ ca = 0 ∨ ∃ x, a = some x) := na
  clear ha na
  have j1 : (la : Int) ≤ 1048576 := by omega
  have j2 : (lb : Int) ≤ 1048576 := by omega
  have j3 : (la : Int) + lb ≤ 1048576 := by omega
  obtain ⟨i0, hi, hz0, hz1, hz2⟩ := info_parts info5
  have hnil := fun (w : World) (a : Option Addr) (n c n' c' : Nat) => run_neq_slice_nil_any (P := Try.prog) w 22 5 a n c n' c' Try.underlying22
  rcases NA.out with ⟨rfl, rfl, rfl⟩ | ⟨x, rfl⟩
  · go_enter Try.func3, Try.ntmps3
    go_wp2_with (go_at_call 6; go_in)
    refine (versionSize_any none b 0 0 lb cb d w (by omega) (by omega)).mono ?_
    rintro e w1 ⟨rfl, b1⟩
    go_wp2_with fail
    refine (versionSize_any none none 0 0 0 0 (!d) w1 (by omega) (by omega)).mono ?_
    rintro e w2 ⟨rfl, b2⟩
    go_wp2
    go_ret
    exact ⟨rfl, b1.trans (b2.mono b1.size)⟩
  · go_enter Try.func3, Try.ntmps3
    go_wp2_with (first | (go_at_call 6; go_in) | (at_make; refine wpList_make_full _ rfl _ _ 22 rfl w.heap.size 5 i0 _ 1 Try.underlying22 hi hz0 hz1 _ _ _ _ la rfl rfl rfl rfl ?c1 ?c2 ?c3 ?_))
    case c1 => rw [hz2]; omega
    case c2 => unfold maxLen; omega
    case c3 => exact Nat.le_refl _
    intro w2 o2 g2
    have b2 : Below w.heap.size w w2 := (Below.refl _ w).grown g2 (Nat.le_refl _) (fun k hk => by cases hk)
    clear g2
    have hsrc : la = 0 ∨ ∃ ad, some x = some ad ∧ ∀ j v, cs[j]? = some v → w2.cell? (ad.add j) = some v := by
      rcases HA.out.2.2 with h | ⟨ad, h1, h2⟩
      · exact .inl h
      · exact .inr ⟨ad, h1, fun j v hv => cell_later b2 (h2 j v hv)⟩
    have HS := (show Hid _ from hsrc)
    clear hsrc
    go_wp2_with ((with_reducible show wpList _ _ _ (Oper.mk _ (Op.call { callee := .builtin .copy, args := #[.tmp 32, .tmp 33], argTypes := #[22, 22] }) _ _ _ _ :: _) _ _); refine wpList_copy_full rfl _ _ 22 22 rfl 5 Try.underlying22 size5 w.heap.size 5 w.heap.size la la _ (some x) ca rfl rfl o2 cs HA.out.1 HS.out HA.out.2.1 ?_)
    intro w3 o3 g3
    have b3 : Below w.heap.size w w3 := b2.grown g3 b2.size (fun k hk => by cases hk; exact Nat.le_refl _)
    have z3 := b3.size
    clear g3 o3 o2 HS b2
    go_wp2_with fail
    refine (versionSize_any _ b la la lb cb d w3 (by omega) (by omega)).mono ?_
    rintro e w4 ⟨rfl, b4⟩
    replace b4 := b3.trans (b4.mono z3)
    have z4 := b4.size
    go_wp2_with fail
    refine (versionSize_any none none 0 0 0 0 (!d) w4 (by omega) (by omega)).mono ?_
    rintro e w5 ⟨rfl, b5⟩
    go_wp2
    go_ret
    exact ⟨rfl, b4.trans (b5.mono z4)⟩

set_option maxRecDepth 100000 in
set_option maxHeartbeats 1000000 in
theorem size_big (a b : Option Addr) (la ca lb cb : Nat) (d : Bool) (w : World) (h : 1048576 < la ∨ (la ≤ 1048576 ∧ 1048576 < lb) ∨ (la ≤ 1048576 ∧ lb ≤ 1048576 ∧ 1048576 < la + lb)) :
    Calls Try.prog 3 #[.slice a la ca, .slice b lb cb, .bool d] w fun e w' => e = .returned (.bool true) ∧ Below w.heap.size w w' := by
  rcases h with h | ⟨h, h2⟩ | ⟨h, h2, h3⟩
  · have j1 : (1048576 : Int) < la := by omega
    go_enter Try.func3, Try.ntmps3
    go_wp2
    go_ret
    exact ⟨rfl, Below.refl _ _⟩
  · have j1 : (la : Int) ≤ 1048576 := by omega
    have j2 : (1048576 : Int) < lb := by omega
    go_enter Try.func3, Try.ntmps3
    go_wp2
    go_ret
    exact ⟨rfl, Below.refl _ _⟩
  · have j1 : (la : Int) ≤ 1048576 := by omega
    have j2 : (lb : Int) ≤ 1048576 := by omega
    have j3 : (1048576 : Int) < la + lb := by omega
    go_enter Try.func3, Try.ntmps3
    go_wp2
    go_ret
    exact ⟨rfl, Below.refl _ _⟩
end Go.Proofs.Qxb6612598a
