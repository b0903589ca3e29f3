/-
  'asyncBlock', and THE WALK OF 'FnAsyncEventLenHeaderLetsReaderFindBlockEnd'.
-/
import Derived.Test.Qxb6612440aPut
import Derived.Test.Qxb6612440aRead
import Derived.Test.Qxb6612440aHead
namespace Go.Proofs.Qxb6612440a
open Go.RowKit

set_option maxHeartbeats 4000000 in
theorem asyncBlock_any (s : ByteArray) (g n : Nat) (tot : Int) (w : World) (hs : s.size ≤ 1048576) (hn : n ≤ 65536) (t0 : 0 ≤ tot) (t1 : tot < 4294967296)
    (hcell : ∀ i, i < n → ∃ z, w.cell? ⟨g, i, none⟩ = some (.int .u8 z)) :
    Calls Try.prog 12 #[.string s, .slice (some ⟨g, 0, none⟩) n n, .int .u32 tot] w fun e w' => ∃ v' zs, e = .returned v' ∧ w'.ownsRow w.heap.size 5 1 v' (43 + s.size + n) (leB 8 0 ++ leB 8 0 ++ leB 4 tot ++ zs) ∧ Below w.heap.size w w' := by
  have HC : Hid (∀ i, i < n → ∃ z, w.cell? ⟨g, i, none⟩ = some (.int .u8 z)) := hcell
  clear hcell
  have hs' : (s.size : Int) ≤ 1048576 := by omega
  have hn' : (n : Int) ≤ 65536 := by omega
  obtain ⟨i0, hi, hz0, hz1, hz2⟩ := info_parts info5
  have o0 := World.ownsRow_nil w w.heap.size 5 1
  have b0 := Below.refl w.heap.size w
  have z0 := b0.size
  go_enter Try.func12, Try.ntmps12
  go_wp2_with fail
  refine (putU64_any w.heap.size _ 0 (by omega) (by omega) _ _ _ o0 z0 (by omega)).mono ?_
  rintro e w1 ⟨s1, rfl, o1, b1⟩
  replace b1 := b0.trans b1
  have z1 := b1.size
  clear b0 z0 o0
  go_wp2_with fail
  refine (putU64_any w.heap.size _ 0 (by omega) (by omega) _ _ _ o1 z1 (by omega)).mono ?_
  rintro e w2 ⟨s2, rfl, o2, b2⟩
  replace b2 := b1.trans b2
  have z2 := b2.size
  clear b1 z1 o1
  go_wp2_with fail
  refine (putU32_any w.heap.size _ tot (by omega) (by omega) _ _ _ o2 z2 (by omega)).mono ?_
  rintro e w3 ⟨s3, rfl, o3, b3⟩
  replace b3 := b2.trans b3
  have z3 := b3.size
  clear b2 z2 o2
  go_wp2_with fail
  refine (putU16_any w.heap.size _ 402 (by omega) (by omega) _ _ _ o3 z3 (by omega)).mono ?_
  rintro e w4 ⟨s4, rfl, o4, b4⟩
  replace b4 := b3.trans b4
  have z4 := b4.size
  clear b3 z3 o3
  go_wp2_with fail
  refine (putU32_any w.heap.size _ 3 (by omega) (by omega) _ _ _ o4 z4 (by omega)).mono ?_
  rintro e w5 ⟨s5, rfl, o5, b5⟩
  replace b5 := b4.trans b5
  have z5 := b5.size
  clear b4 z4 o4
  go_wp2_with fail
  refine (putU32_any w.heap.size _ 4 (by omega) (by omega) _ _ _ o5 z5 (by omega)).mono ?_
  rintro e w6 ⟨s6, rfl, o6, b6⟩
  replace b6 := b5.trans b6
  have z6 := b6.size
  clear b5 z5 o5
  go_wp2_with fail
  refine (putU32_any w.heap.size _ _ (by omega) (by omega) _ _ _ o6 z6 (by omega)).mono ?_
  rintro e w7 ⟨s7, rfl, o7, b7⟩
  replace b7 := b6.trans b7
  have z7 := b7.size
  clear b6 z6 o6
  go_wp2_with fail
  refine (putU32_any w.heap.size _ _ (by omega) (by omega) _ _ _ o7 z7 (by omega)).mono ?_
  rintro e w8 ⟨s8, rfl, o8, b8⟩
  replace b8 := b7.trans b8
  have z8 := b8.size
  clear b7 z7 o7
  go_wp2_with fail
  refine (putU32_any w.heap.size _ 0 (by omega) (by omega) _ _ _ o8 z8 (by omega)).mono ?_
  rintro e w9 ⟨s9, rfl, o9, b9⟩
  replace b9 := b8.trans b9
  have z9 := b9.size
  clear b8 z8 o8
  obtain ⟨pre, hpre⟩ : ∃ pre, pre = leB 8 0 ++ leB 8 0 ++ leB 4 tot := ⟨_, rfl⟩
  obtain ⟨zs0, o9'⟩ : ∃ zs0, w9.ownsRow w.heap.size 5 1 s9 42 (pre ++ zs0) := ⟨leB 2 402 ++ (leB 4 3 ++ (leB 4 4 ++ (leB 4 (↑s.size + 1) ++ (leB 4 ↑n ++ leB 4 0)))), by rw [hpre]; simpa only [List.nil_append, List.append_assoc, Nat.zero_add, Nat.reduceAdd] using o9⟩
  have HP : Hid (pre = leB 8 0 ++ leB 8 0 ++ leB 4 tot) := hpre
  clear hpre o9
  go_wp2
  go_loopw [7, 8] (fun o i wr => ∃ (k : Nat) (ys : List Value), k ≤ s.size ∧ i = .int .i64 k ∧ wr.ownsRow w.heap.size 5 1 o (42 + k) (pre ++ ys) ∧ Below w.heap.size w wr)
    (fun _ i _ => s.size - (intOf i).toNat)
  case atStart => exact ⟨0, zs0, by omega, rfl, o9', b9⟩
  case round =>
    obtain ⟨k, ys, hk, rfl, ho, hbel⟩ := hrel
    have hsz := hbel.size
    clear o9' b9 z9
    by_cases hlt : k < s.size
    · go_wp2_with (at_builtin; refine wpList_append_own _ rfl _ _ 25 rfl w.heap.size 5 i0 (.int .u8 0) 1 1 Try.underlying25 hi hz0 hz1 hz2 rfl (by decide) _ _ _ rfl (ho.alloc _) ⟨wr.heap.size, 0, none⟩ 1 1 [_] rfl rfl (cell_one_new _ _ _) ?c2 ?c3 ?c4 ?c5 ?_)
      case c2 => intro u hu; simp at hu; subst hu; rfl
      case c3 => unfold maxLen; omega
      case c4 => omega
      case c5 => simp; omega
      intro v' w' hown' hgrow _
      have hb1 : Below w.heap.size w w' := (hbel.alloc (by omega) _).grown hgrow (by simp; omega) (fun g hg => (ho.lt g hg).1)
      clear hgrow ho
      go_wp2
      go_roundw
      case rel => exact ⟨k + 1, _, by omega, by go_num, hown', hb1⟩
      case measure => simp [intOf]; omega
    · obtain rfl : k = s.size := by omega
      go_wp2_with (at_builtin; refine wpList_append_own _ rfl (.tmp 48) (.tmp 49) 25 rfl w.heap.size 5 i0 (.int .u8 0) 1 1 Try.underlying25 hi hz0 hz1 hz2 rfl (by decide) _ _ _ rfl (ho.alloc _) ⟨wr.heap.size, 0, none⟩ 1 1 [_] rfl rfl (cell_one_new _ _ _) ?d2 ?d3 ?d4 ?d5 ?_)
      case d2 => intro u hu; simp at hu; subst hu; rfl
      case d3 => unfold maxLen; omega
      case d4 => omega
      case d5 => simp; omega
      intro v1 w' hown1 hgrow _
      have hb1 : Below w.heap.size w w' := (hbel.alloc (by omega) _).grown hgrow (by simp; omega) (fun g hg => (ho.lt g hg).1)
      clear hgrow ho hbel hsz
      go_wp2
      go_loopw [7, 9] (fun o i wr => ∃ (k : Nat) (ys : List Value), k ≤ n ∧ i = .int .i64 k ∧ wr.ownsRow w.heap.size 5 1 o (43 + s.size + k) (pre ++ ys) ∧ Below w.heap.size w wr)
        (fun _ i _ => n - (intOf i).toNat)
      case atStart => exact ⟨0, _, by omega, rfl, by rw [show 43 + s.size + 0 = 42 + s.size + 1 from by omega]; exact hown1, hb1⟩
      case round =>
        obtain ⟨k, ys, hk, rfl, ho, hbel⟩ := hrel
        have hsz := hbel.size
        clear hown1 hb1
        by_cases hlt : k < n
        · obtain ⟨z, hz⟩ := HC.out k hlt
          have hz' := cell_later hbel hz
          go_wp2_with (at_builtin; refine wpList_append_own _ rfl _ _ 25 rfl w.heap.size 5 i0 (.int .u8 0) 1 1 Try.underlying25 hi hz0 hz1 hz2 rfl (by decide) _ _ _ rfl (ho.alloc _) ⟨wr.heap.size, 0, none⟩ 1 1 [_] rfl rfl (cell_one_new _ _ _) ?e2 ?e3 ?e4 ?e5 ?_)
          case e2 => intro u hu; simp at hu; subst hu; rfl
          case e3 => unfold maxLen; omega
          case e4 => omega
          case e5 => simp; omega
          intro v' w' hown' hgrow _
          have hb1 : Below w.heap.size w w' := (hbel.alloc (by omega) _).grown hgrow (by simp; omega) (fun g hg => (ho.lt g hg).1)
          clear hgrow ho
          go_wp2
          go_roundw
          case rel => exact ⟨k + 1, _, by omega, by go_num, hown', hb1⟩
          case measure => simp [intOf]; omega
        · obtain rfl : k = n := by omega
          go_wp2
          go_ret
          exact ⟨_, ys, rfl, by rw [← HP.out]; exact ho, hbel⟩
/-- u8: the cells of a row are bytes. -/
def AllU8 (ys : List Value) : Prop := ∀ i, i < ys.length → ∃ z, ys[i]? = some (.int .u8 z)

theorem AllU8.set {ys : List Value} (h : AllU8 ys) (k : Nat) (z : Int) : AllU8 (ys.set k (.int .u8 z)) := by
  intro i hi
  rw [List.length_set] at hi
  rw [List.getElem?_set]
  by_cases e : k = i
  · exact ⟨z, by simp [e, hi]⟩
  · simpa [e] using h i hi

theorem allU8_made (n : Nat) : AllU8 (madeCells #[Value.int .u8 0] n).toList := by
  intro i hi
  rw [toList_madeCells_one] at hi ⊢
  exact ⟨0, by simp at hi; simp [hi]⟩

theorem pre_at (tot : Int) (zs : List Value) :
    (leB 8 0 ++ leB 8 0 ++ leB 4 tot ++ zs)[16]? = some (.int .u8 (tot % 256)) ∧ (leB 8 0 ++ leB 8 0 ++ leB 4 tot ++ zs)[17]? = some (.int .u8 (tot / 256 % 256)) ∧
    (leB 8 0 ++ leB 8 0 ++ leB 4 tot ++ zs)[18]? = some (.int .u8 (tot / 256 / 256 % 256)) ∧ (leB 8 0 ++ leB 8 0 ++ leB 4 tot ++ zs)[19]? = some (.int .u8 (tot / 256 / 256 / 256 % 256)) := by
  simp [leB]

set_option maxHeartbeats 4000000 in
theorem async_main (s : ByteArray) (n : Nat) (w : World) (hs : s.size ≤ 1048576) (hn : n ≤ 65536) :
    Calls Try.prog 4 #[.string s, .int .i64 n] w fun e w' => e = .returned (.bool true) ∧ Below w.heap.size w w' := by
  have hs' : (s.size : Int) ≤ 1048576 := by omega
  have hn' : (n : Int) ≤ 65536 := by omega
  have hn0 : (0 : Int) ≤ n := by omega
  obtain ⟨i0, hi, hz0, hz1, hz2⟩ := info_parts info5
  go_enter Try.func4, Try.ntmps4
  go_wp2_with (first | (go_at_call 10; go_in) | (at_make; refine wpList_make_full _ rfl _ _ 25 rfl w.heap.size 5 i0 (.int .u8 0) 1 Try.underlying25 hi hz0 hz1 _ _ _ _ n rfl rfl rfl rfl ?c1 ?c2 ?c3 ?_))
  case c1 => rw [hz2]; omega
  case c2 => unfold maxLen; omega
  case c3 => exact Nat.le_refl _
  intro w1 o1 g1
  have b1 : Below w.heap.size w w1 := (Below.refl _ w).grown g1 (Nat.le_refl _) (fun k hk => by cases hk)
  have a1 := allU8_made n
  clear g1
  go_wp2
  go_loopw [6] (fun i wr => ∃ (k : Nat) (ys : List Value), k ≤ n ∧ i = .int .i64 k ∧ wr.ownsRow w.heap.size 5 1 (.slice (some ⟨w.heap.size, 0, none⟩) n n) n ys ∧ AllU8 ys ∧ Below w.heap.size w wr)
    (fun i _ => n - (intOf i).toNat)
  case atStart => exact ⟨0, _, by omega, rfl, o1, a1, b1⟩
  case round =>
    obtain ⟨k, ys, hk, rfl, ho, hall, hbel⟩ := hrel
    clear o1 a1 b1
    have hsz := hbel.size
    have hlen : ys.length = n := by simpa using ho.1
    by_cases hlt : k < n
    · obtain ⟨z, hz⟩ := hall k (by omega)
      have hc := (ho.cellAt k (by omega)).trans hz
      have hf := ho.frozenAt k
      clear hlen hz
      go_wp2
      go_roundw
      case rel => exact ⟨k + 1, _, by omega, by go_num, (ho.stored k _).1, hall.set k _, hbel.setCell (Nat.le_refl _) _⟩
      case measure => simp [intOf]; omega
    · obtain rfl : k = n := by omega
      have hcell : ∀ i, i < k → ∃ z, wr.cell? ⟨w.heap.size, i, none⟩ = some (.int .u8 z) := fun i hi => by
        obtain ⟨z, hz⟩ := hall i (by omega)
        exact ⟨z, (ho.cellAt i (by omega)).trans hz⟩
      have HC : Hid (∀ i, i < k → ∃ z, wr.cell? ⟨w.heap.size, i, none⟩ = some (.int .u8 z)) := hcell
      clear hcell hall ho hlen
      go_wp2_with (go_at_call 11; go_in)
      refine (asyncBlock_any s w.heap.size k (42 + (s.size : Int) + 1 + (k : Int)) wr hs hn (by omega) (by omega) HC.out).mono ?_
      rintro e w2 ⟨v2, zs, rfl, o2, b2⟩
      obtain ⟨g, cp, hv, hcp⟩ := ownsRow_shape o2 (by omega)
      rw [hv] at o2
      have hp := pre_at (42 + (s.size : Int) + 1 + (k : Int)) zs
      have hC := readBlockLen_any g (43 + s.size + k) cp _ _ _ _ (byteB (42 + (s.size : Int) + 1 + (k : Int))) (byteB _) (byteB _) (byteB _) w2 (by omega) hcp
        ((o2.cellAt 16 (by omega)).trans hp.1) ((o2.cellAt 17 (by omega)).trans hp.2.1) ((o2.cellAt 18 (by omega)).trans hp.2.2.1) ((o2.cellAt 19 (by omega)).trans hp.2.2.2)
      rw [sum_le (42 + (s.size : Int) + 1 + (k : Int)) (by omega) (by omega)] at hC
      have b3 := hbel.trans (b2.mono hsz)
      have hsz2 := b3.size
      rw [hv]
      clear hp o2 hv hcp b2 HC hbel
      go_wp2_with (go_at_call 9; refine hC.mono ?_; rintro e w' ⟨rfl, hb1⟩)
      go_ret
      exact ⟨rfl, b3.trans (hb1.mono hsz2)⟩

theorem async_long (s : ByteArray) (n : Int) (w : World) (hs : ¬ s.size ≤ 1048576) :
    Calls Try.prog 4 #[.string s, .int .i64 n] w fun e w' => e = .returned (.bool true) ∧ Below w.heap.size w w' := by
  have hs' : (1048576 : Int) < s.size := by omega
  go_enter Try.func4, Try.ntmps4
  go_wp2
  go_ret
  exact ⟨rfl, Below.refl _ _⟩

theorem async_neg (s : ByteArray) (n : Int) (w : World) (hs : s.size ≤ 1048576) (hn : n < 0) :
    Calls Try.prog 4 #[.string s, .int .i64 n] w fun e w' => e = .returned (.bool true) ∧ Below w.heap.size w w' := by
  have hs' : (s.size : Int) ≤ 1048576 := by omega
  go_enter Try.func4, Try.ntmps4
  go_wp2
  go_ret
  exact ⟨rfl, Below.refl _ _⟩

theorem async_much (s : ByteArray) (n : Int) (w : World) (hs : s.size ≤ 1048576) (hn : 65536 < n) :
    Calls Try.prog 4 #[.string s, .int .i64 n] w fun e w' => e = .returned (.bool true) ∧ Below w.heap.size w w' := by
  have hs' : (s.size : Int) ≤ 1048576 := by omega
  have hn' : ¬ n < 0 := by omega
  go_enter Try.func4, Try.ntmps4
  go_wp2
  go_ret
  exact ⟨rfl, Below.refl _ _⟩
end Go.Proofs.Qxb6612440a
