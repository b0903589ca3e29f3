/-
  The three writers 'putU16', 'putU32', 'putU64' of the laws' own package: onto a slice that the call itself owns each appends the bytes of its number, the least first.
-/
import Derived.Test.Qxb6612440aRows
import Derived.WalkKit
import Derived.ProofKit
import Derived.Below
import Derived.WalkSpells
namespace Go.Proofs.Qxb6612440a
open Go.RowKit

theorem info5 : (Try.prog.info? 5).map (fun i => (i.zero, i.size, i.bytes)) = some (some (.int .u8 0), 1, 1) := by kernel_rfl

/-- The k least bytes of v, the least first, as cells. -/
def leB : Nat → Int → List Value
  | 0, _ => []
  | k + 1, v => .int .u8 (v % 256) :: leB k (v / 256)

theorem leB_length (k : Nat) : ∀ v, (leB k v).length = k := by
  induction k with
  | zero => intro v; rfl
  | succ k ih => intro v; simp [leB, ih]

theorem leB_step {k m : Nat} {v c : Int} {ys : List Value} (hk : k < m) (h : leB m v = ys ++ leB (m - k) c) : leB m v = (ys ++ [.int .u8 (c % 256)]) ++ leB (m - (k + 1)) (c / 256) := by
  rw [h]
  obtain ⟨j, hj⟩ : ∃ j, m - k = j + 1 := ⟨m - k - 1, by omega⟩
  rw [hj, show m - (k + 1) = j from by omega]
  simp [leB]

theorem leB_last {k m : Nat} {v c : Int} {ys : List Value} (hk : ¬ k < m) (h : leB m v = ys ++ leB (m - k) c) : ys = leB m v := by
  rw [h, show m - k = 0 from by omega]
  simp [leB]

set_option maxHeartbeats 400000 in
theorem putU32_any (B n : Nat) (v : Int) (hv0 : 0 ≤ v) (hv1 : v < 4294967296) (sv : Value) (xs : List Value) (w : World) (hown : w.ownsRow B 5 1 sv n xs) (hB : B ≤ w.heap.size) (hn : n ≤ 4194304) :
    Calls Try.prog 7 #[sv, .int .u32 v] w fun e w' => ∃ v', e = .returned v' ∧ w'.ownsRow B 5 1 v' (n + 4) (xs ++ leB 4 v) ∧ Below B w w' := by
  obtain ⟨i0, hi, hz0, hz1, hz2⟩ := info_parts info5
  go_enter Try.func7, Try.ntmps7
  go_wp2
  go_loopw [0, 1, 5] (fun o u i wr => ∃ (k : Nat) (c : Int) (ys : List Value), k ≤ 4 ∧ i = .int .i64 k ∧ u = .int .u32 c ∧ 0 ≤ c ∧ c < 4294967296 ∧ Hid (leB 4 v = ys ++ leB (4 - k) c) ∧ wr.ownsRow B 5 1 o (n + k) (xs ++ ys) ∧ Below B w wr)
    (fun _ _ i _ => 4 - (intOf i).toNat)
  case atStart => exact ⟨0, v, [], by omega, rfl, rfl, hv0, hv1, rfl, by simpa using hown, Below.refl _ _⟩
  case round =>
    obtain ⟨k, c, ys, hk, rfl, rfl, hc0, hc1, HL, ho, hbel⟩ := hrel
    have hsz := hbel.size
    by_cases hlt : k < 4
    · go_wp2_with (at_builtin; refine wpList_append_own _ rfl _ _ 25 rfl B 5 i0 (.int .u8 0) 1 1 Try.underlying25 hi hz0 hz1 hz2 rfl (by decide) _ _ _ rfl (ho.alloc _) ⟨wr.heap.size, 0, none⟩ 1 1 [_] rfl rfl (cell_one_new _ _ _) ?c2 ?c3 ?c4 ?c5 ?_)
      case c2 => intro u hu; simp at hu; subst hu; rfl
      case c3 => unfold maxLen; omega
      case c4 => omega
      case c5 => simp; omega
      · intro v' w1 hown' hgrow _
        have hb1 : Below B w w1 := (hbel.alloc (by omega) _).grown hgrow (by simp; omega) (fun g hg => (ho.lt g hg).1)
        clear hgrow ho
        go_wp2
        go_roundw
        case rel => exact ⟨k + 1, _, _, by omega, by go_num, rfl, by omega, by omega, leB_step hlt HL.out, hown', hb1⟩
        case measure => simp [intOf]; omega
    · go_wp2
      go_ret
      rw [leB_last hlt HL.out, show n + k = n + 4 from by omega] at ho
      exact ⟨_, rfl, ho, hbel⟩
set_option maxHeartbeats 400000 in
theorem putU64_any (B n : Nat) (v : Int) (hv0 : 0 ≤ v) (hv1 : v < 18446744073709551616) (sv : Value) (xs : List Value) (w : World) (hown : w.ownsRow B 5 1 sv n xs) (hB : B ≤ w.heap.size) (hn : n ≤ 4194304) :
    Calls Try.prog 6 #[sv, .int .u64 v] w fun e w' => ∃ v', e = .returned v' ∧ w'.ownsRow B 5 1 v' (n + 8) (xs ++ leB 8 v) ∧ Below B w w' := by
  obtain ⟨i0, hi, hz0, hz1, hz2⟩ := info_parts info5
  go_enter Try.func6, Try.ntmps6
  go_wp2
  go_loopw [0, 1, 5] (fun o u i wr => ∃ (k : Nat) (c : Int) (ys : List Value), k ≤ 8 ∧ i = .int .i64 k ∧ u = .int .u64 c ∧ 0 ≤ c ∧ c < 18446744073709551616 ∧ Hid (leB 8 v = ys ++ leB (8 - k) c) ∧ wr.ownsRow B 5 1 o (n + k) (xs ++ ys) ∧ Below B w wr)
    (fun _ _ i _ => 8 - (intOf i).toNat)
  case atStart => exact ⟨0, v, [], by omega, rfl, rfl, hv0, hv1, rfl, by simpa using hown, Below.refl _ _⟩
  case round =>
    obtain ⟨k, c, ys, hk, rfl, rfl, hc0, hc1, HL, ho, hbel⟩ := hrel
    have hsz := hbel.size
    by_cases hlt : k < 8
    · go_wp2_with (at_builtin; refine wpList_append_own _ rfl _ _ 25 rfl B 5 i0 (.int .u8 0) 1 1 Try.underlying25 hi hz0 hz1 hz2 rfl (by decide) _ _ _ rfl (ho.alloc _) ⟨wr.heap.size, 0, none⟩ 1 1 [_] rfl rfl (cell_one_new _ _ _) ?c2 ?c3 ?c4 ?c5 ?_)
      case c2 => intro u hu; simp at hu; subst hu; rfl
      case c3 => unfold maxLen; omega
      case c4 => omega
      case c5 => simp; omega
      · intro v' w1 hown' hgrow _
        have hb1 : Below B w w1 := (hbel.alloc (by omega) _).grown hgrow (by simp; omega) (fun g hg => (ho.lt g hg).1)
        clear hgrow ho
        go_wp2
        go_roundw
        case rel => exact ⟨k + 1, _, _, by omega, by go_num, rfl, by omega, by omega, leB_step hlt HL.out, hown', hb1⟩
        case measure => simp [intOf]; omega
    · go_wp2
      go_ret
      rw [leB_last hlt HL.out, show n + k = n + 8 from by omega] at ho
      exact ⟨_, rfl, ho, hbel⟩
set_option maxHeartbeats 400000 in
theorem putU16_any (B n : Nat) (v : Int) (hv0 : 0 ≤ v) (hv1 : v < 65536) (sv : Value) (xs : List Value) (w : World) (hown : w.ownsRow B 5 1 sv n xs) (hB : B ≤ w.heap.size) (hn : n ≤ 4194304) :
    Calls Try.prog 8 #[sv, .int .u16 v] w fun e w' => ∃ v', e = .returned v' ∧ w'.ownsRow B 5 1 v' (n + 2) (xs ++ leB 2 v) ∧ Below B w w' := by
  obtain ⟨i0, hi, hz0, hz1, hz2⟩ := info_parts info5
  go_enter Try.func8, Try.ntmps8
  go_wp2_with (at_builtin; refine wpList_append_own _ rfl (.tmp 5) (.tmp 8) 25 rfl B 5 i0 (.int .u8 0) 1 1 Try.underlying25 hi hz0 hz1 hz2 rfl (by decide) _ _ _ rfl (hown.alloc _) ⟨w.heap.size, 0, none⟩ 1 1 [_] rfl rfl (cell_one_new _ _ _) ?c2 ?c3 ?c4 ?c5 ?_)
  case c2 => intro u hu; simp at hu; subst hu; rfl
  case c3 => unfold maxLen; omega
  case c4 => omega
  case c5 => simp; omega
  intro v1 w1 hown1 hgrow1 _
  have hb1 : Below B w w1 := ((Below.refl B w).alloc (by omega) _).grown hgrow1 (by simp; omega) (fun g hg => (hown.lt g hg).1)
  have hs1 := hb1.size
  clear hgrow1
  go_wp2_with (at_builtin; refine wpList_append_own _ rfl (.tmp 10) (.tmp 14) 25 rfl B 5 i0 (.int .u8 0) 1 1 Try.underlying25 hi hz0 hz1 hz2 rfl (by decide) _ _ _ rfl (hown1.alloc _) ⟨w1.heap.size, 0, none⟩ 1 1 [_] rfl rfl (cell_one_new _ _ _) ?d2 ?d3 ?d4 ?d5 ?_)
  case d2 => intro u hu; simp at hu; subst hu; rfl
  case d3 => unfold maxLen; omega
  case d4 => omega
  case d5 => simp; omega
  intro v2 w2 hown2 hgrow2 _
  have hb2 : Below B w w2 := (hb1.alloc (by omega) _).grown hgrow2 (by simp; omega) (fun g hg => (hown1.lt g hg).1)
  clear hgrow2
  go_wp2
  go_ret
  have e : v / 256 % 256 = v / 256 := by omega
  exact ⟨_, rfl, by simpa [leB, e, Nat.add_assoc] using hown2, hb2⟩
end Go.Proofs.Qxb6612440a
