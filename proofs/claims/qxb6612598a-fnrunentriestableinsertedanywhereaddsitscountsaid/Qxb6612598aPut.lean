/-
  'zzCloneBytes', and THE WALK OF 'FnRunEntriesTableInsertedAnywhereAddsItsCount'.
-/
import Derived.Test.Qxb6612598aAdds
namespace Go.Proofs.Qxb6612598a
open Go.RowKit

theorem info29 : (Try.prog.info? 29).map (fun i => (i.zero, i.size, i.bytes)) = some (some (.int .u64 0), 1, 8) := by kernel_rfl

/-- Each element's cell of a slice of bytes holds something. -/
def SomeRow (w : World) (a : Option Addr) (n : Nat) : Prop := n = 0 ∨ ∃ x, a = some x ∧ ∀ i, i < n → ∃ z, w.cell? (x.add i) = some (.int .u8 z)

theorem owned_cell {w : World} {B e g m : Nat} {ys : List Value} (ho : w.ownsRow B e 1 (.slice (some ⟨g, 0, none⟩) m m) m ys) {i : Nat} (hi : i < m) : ∃ v, w.cell? ⟨g, i, none⟩ = some v := by
  have hl : ys.length = m := by simpa using ho.1
  exact ⟨ys[i]'(by omega), (ho.cellAt i (by omega)).trans (List.getElem?_eq_getElem (by omega))⟩

set_option maxRecDepth 100000 in
set_option maxHeartbeats 1000000 in
theorem clone_nil (w : World) :
    Calls Try.prog 12 #[.slice none 0 0] w fun e w' => ∃ a n c, e = .returned (.slice a n c) ∧ Below w.heap.size w w' := by
  have hnil := fun (w : World) (a : Option Addr) (n c n' c' : Nat) => Lib.run_eql_slice_nil (P := Try.prog) w 22 5 a n c n' c' Try.underlying22
  go_enter Try.func12, Try.ntmps12
  go_wp2
  go_ret
  exact ⟨_, _, _, rfl, Below.refl _ _⟩

set_option maxRecDepth 100000 in
set_option maxHeartbeats 1000000 in
theorem clone_some (x : Addr) (n c : Nat) (w : World) (hn : n ≤ 65536) (ha : SomeRow w (some x) n) :
    Calls Try.prog 12 #[.slice (some x) n c] w fun e w' => ∃ a n c, e = .returned (.slice a n c) ∧ Below w.heap.size w w' := by
  have hnil := fun (w : World) (a : Option Addr) (n c n' c' : Nat) => Lib.run_eql_slice_nil (P := Try.prog) w 22 5 a n c n' c' Try.underlying22
  have HA := (show Hid (SomeRow w (some x) n) from ha)
  clear ha
  have j1 : (n : Int) ≤ 65536 := by omega
  obtain ⟨i0, hi, hz0, hz1, hz2⟩ := info_parts info5
  go_enter Try.func12, Try.ntmps12
  go_wp2_with (at_make; refine wpList_make_full _ rfl _ _ 22 rfl w.heap.size 5 i0 _ 1 Try.underlying22 hi hz0 hz1 _ _ _ _ n rfl rfl rfl rfl ?c1 ?c2 ?c3 ?_)
  case c1 => rw [hz2]; omega
  case c2 => unfold maxLen; omega
  case c3 => exact Nat.le_refl _
  intro w1 o1 g1
  have b1 : Below w.heap.size w w1 := (Below.refl _ w).grown g1 (Nat.le_refl _) (fun k hk => by cases hk)
  clear g1
  go_wp2
  go_loopw [4] (fun i wr => ∃ (k : Nat) (ys : List Value), k ≤ n ∧ i = .int .i64 k ∧ wr.ownsRow w.heap.size 5 1 (.slice (some ⟨w.heap.size, 0, none⟩) n n) n ys ∧ Below w.heap.size w wr) (fun i _ => n - (intOf i).toNat)
  case atStart => exact ⟨0, _, by omega, rfl, o1, b1⟩
  case round =>
    obtain ⟨k, ys, hk, rfl, ho, hbel⟩ := hrel
    clear o1 b1
    by_cases hlt : k < n
    · rcases HA.out with h0 | ⟨y, hy, hc⟩
      · omega
      simp only [Option.some.injEq] at hy
      subst hy
      obtain ⟨z, hz⟩ := hc k hlt
      have cz := cell_later hbel hz
      obtain ⟨v, d1⟩ := owned_cell ho hlt
      have d2 := ho.frozenAt k
      clear hc hz
      go_wp2
      go_roundw
      case rel => exact ⟨k + 1, _, by omega, by go_num, (ho.stored k _).1, hbel.setCell (Nat.le_refl _) _⟩
      case measure => simp [intOf]; omega
    · go_wp2
      go_ret
      exact ⟨_, _, _, rfl, hbel⟩

/-- A made row of m numbers whose first k are those of zs. -/
def FilledU (w : World) (g m k : Nat) (zs : List Int) : Prop :=
  ∃ ys, w.ownsRow g 29 1 (.slice (some ⟨g, 0, none⟩) m m) m ys ∧ ∀ i, i < k → ys[i]? = some (.int .u64 (zs.getD i 0))

theorem FilledU.cell {w : World} {g m k : Nat} {zs : List Int} (h : FilledU w g m k zs) {i : Nat} (hi : i < m) : ∃ v, w.cell? ⟨g, i, none⟩ = some v := by
  obtain ⟨ys, ho, _⟩ := h
  exact owned_cell ho hi

theorem FilledU.frozen {w : World} {g m k : Nat} {zs : List Int} (h : FilledU w g m k zs) (i : Nat) : w.frozen? ⟨g, i, none⟩ = false := by
  obtain ⟨ys, ho, _⟩ := h
  exact ho.frozenAt i

theorem FilledU.store {w : World} {g m k : Nat} {zs : List Int} (h : FilledU w g m k zs) (hk : k < m) (z : Int) (hz : zs.getD k 0 = z) : FilledU (w.setCell ⟨g, k, none⟩ (.int .u64 z)) g m (k + 1) zs := by
  obtain ⟨ys, ho, hy⟩ := h
  have hl : ys.length = m := by simpa using ho.1
  refine ⟨_, (ho.stored k _).1, fun i hi => ?_⟩
  rw [List.getElem?_set]
  by_cases e : k = i
  · subst e
    rw [if_pos rfl, if_pos (by omega), hz]
  · rw [if_neg e]
    exact hy i (by omega)

theorem FilledU.row {w : World} {g m : Nat} {zs : List Int} (h : FilledU w g m m zs) (hl : zs.length = m) : NumRow w (some ⟨g, 0, none⟩) m zs := by
  obtain ⟨ys, ho, hy⟩ := h
  refine ⟨hl, .inr ⟨_, rfl, fun i hi => ?_⟩⟩
  have e : (⟨g, 0, none⟩ : Addr).add i = ⟨g, i, none⟩ := by unfold Addr.add; split <;> simp_all
  rw [e, ho.cellAt i (by omega), hy i hi]

theorem FilledU.later {w w' : World} {g m k : Nat} {zs : List Int} (h : FilledU w g m k zs) (hb : Below w.heap.size w w') : FilledU w' g m k zs := by
  obtain ⟨ys, ho, hy⟩ := h
  exact ⟨ys, ownsRow_later ho hb, hy⟩

theorem put_lo {zs : List Int} {j : Nat} (c : Int) (hj : j ≤ zs.length) {k : Nat} (hk : k < j) : (zs.take j ++ c :: zs.drop j).getD k 0 = zs.getD k 0 := by
  rw [List.getD_eq_getElem?_getD, List.getElem?_append_left (by rw [List.length_take]; omega), List.getElem?_take, if_pos hk, List.getD_eq_getElem?_getD]

theorem put_at {zs : List Int} {j : Nat} (c : Int) (hj : j ≤ zs.length) : (zs.take j ++ c :: zs.drop j).getD j 0 = c := by
  rw [List.getD_eq_getElem?_getD, List.getElem?_append_right (by rw [List.length_take]; omega), List.length_take, show j - min j zs.length = 0 from by omega]
  rfl

theorem put_hi {zs : List Int} {j : Nat} (c : Int) (hj : j ≤ zs.length) {k : Nat} (hk : j ≤ k) : (zs.take j ++ c :: zs.drop j).getD (k + 1) 0 = zs.getD k 0 := by
  rw [List.getD_eq_getElem?_getD, List.getElem?_append_right (by rw [List.length_take]; omega), List.length_take, show k + 1 - min j zs.length = (k - j) + 1 from by omega, List.getElem?_cons_succ, List.getElem?_drop,
    show j + (k - j) = k from by omega, List.getD_eq_getElem?_getD]

theorem put_length (zs : List Int) (j : Nat) (c : Int) : (zs.take j ++ c :: zs.drop j).length = zs.length + 1 := by
  simp; omega

set_option maxRecDepth 100000 in
set_option maxHeartbeats 4000000 in
theorem put_main (a : Option Addr) (n c : Nat) (zs : List Int) (b : Option Addr) (m d : Nat) (z : Int) (j : Nat) (w : World) (ha : NumRow w a n zs) (hn : n ≤ 65536) (hm : m ≤ 65536) (hj : j ≤ n)
    (hcl : Hid (Calls Try.prog 12 #[.slice b m d] w fun e w' => ∃ a n c, e = .returned (.slice a n c) ∧ Below w.heap.size w w')) :
    Calls Try.prog 5 #[.slice a n c, .slice b m d, .int .u64 z, .int .i64 j] w fun e w' => e = .returned (.bool true) ∧ Below w.heap.size w w' := by
  have HA : Hid (NumRow w a n zs) := ha
  have hlz : zs.length = n := ha.1
  clear ha
  have HLZ := (show Hid (zs.length = n) from hlz)
  clear hlz
  have j1 : (n : Int) ≤ 65536 := by omega
  have j2 : (m : Int) ≤ 65536 := by omega
  have j3 : (j : Int) ≤ n := by omega
  have j4 : (0 : Int) ≤ j := by omega
  obtain ⟨i0, hi, hz0, hz1, hz2⟩ := info_parts info29
  obtain ⟨S, hS⟩ : ∃ S, S = sumU zs := ⟨_, rfl⟩
  obtain ⟨T, hT⟩ : ∃ T, T = sumU (zs.take j ++ z :: zs.drop j) := ⟨_, rfl⟩
  have hsum : IntKind.u64.wrap (S + z) = T := by rw [hS, hT]; exact (sumU_put zs j z).symm
  have HS := (show Hid (S = sumU zs) from hS)
  have HT := (show Hid (T = sumU (zs.take j ++ z :: zs.drop j)) from hT)
  clear hS hT
  go_enter Try.func5, Try.ntmps5
  go_wp2_with (go_at_call 11; go_in)
  refine hcl.out.mono ?_
  rintro e w1 ⟨b', m', d', rfl, b1⟩
  have z1 := b1.size
  clear hcl
  go_wp2_with (at_make; refine wpList_make_full _ rfl _ _ 27 rfl w1.heap.size 29 i0 _ 1 Try.underlying27 hi hz0 hz1 _ _ _ _ (n + 1) rfl rfl (by omega) (by omega) ?c1 ?c2 ?c3 ?_)
  case c1 => rw [hz2]; omega
  case c2 => unfold maxLen; omega
  case c3 => exact Nat.le_refl _
  intro w2 o2 g2
  have b2' : Below w1.heap.size w1 w2 := (Below.refl _ w1).grown g2 (Nat.le_refl _) (fun k hk => by cases hk)
  have b2 : Below w.heap.size w w2 := b1.trans (b2'.mono z1)
  have F := (show Hid (FilledU w2 w1.heap.size (n + 1) 0 (zs.take j ++ z :: zs.drop j)) from ⟨_, o2, fun i hi => by omega⟩)
  clear g2 o2 b2' b1
  generalize hG : w1.heap.size = G at *
  clear hG
  go_wp2
  go_loopw [10] (fun i wr => ∃ k : Nat, k ≤ j ∧ i = .int .i64 k ∧ FilledU wr G (n + 1) k (zs.take j ++ z :: zs.drop j) ∧ Below w.heap.size w wr) (fun i _ => j - (intOf i).toNat)
  case atStart => exact ⟨0, by omega, rfl, F.out, b2⟩
  case round =>
    obtain ⟨k, hk, rfl, hf, hbel⟩ := hrel
    have HF := (show Hid (FilledU wr G (n + 1) k (zs.take j ++ z :: zs.drop j)) from hf)
    clear hf F b2
    by_cases hlt : k < j
    · obtain ⟨_, h0 | ⟨x, rfl, hx⟩⟩ := HA.out
      · omega
      have cx := cell_later hbel (hx k (by omega))
      have hlo := put_lo (zs := zs) z (by rw [HLZ.out]; exact hj) hlt
      obtain ⟨q, hq⟩ : ∃ q, zs.getD k 0 = q := ⟨_, rfl⟩
      rw [hq] at cx hlo
      obtain ⟨v, d1⟩ := HF.out.cell (show k < n + 1 by omega)
      have d2 := HF.out.frozen k
      have HF2 := (show Hid (FilledU (wr.setCell ⟨G, k, none⟩ (.int .u64 q)) G (n + 1) (k + 1) (zs.take j ++ z :: zs.drop j)) from HF.out.store (by omega) q hlo)
      have hb2 : Below w.heap.size w (wr.setCell ⟨G, k, none⟩ (.int .u64 q)) := hbel.setCell z1 _
      clear hlo hq hx HF hbel
      have j5 : (k : Int) < n := by omega
      go_wp2
      go_roundw
      case rel => exact ⟨k + 1, by omega, by go_num, HF2.out, hb2⟩
      case measure => simp [intOf]; omega
    · obtain rfl : k = j := by omega
      have hat := put_at (zs := zs) (j := k) z (by rw [HLZ.out]; exact hj)
      obtain ⟨v, d1⟩ := HF.out.cell (show k < n + 1 by omega)
      have d2 := HF.out.frozen k
      have HF2 := (show Hid (FilledU (wr.setCell ⟨G, k, none⟩ (.int .u64 z)) G (n + 1) (k + 1) (zs.take k ++ z :: zs.drop k)) from HF.out.store (by omega) z hat)
      have hb2 : Below w.heap.size w (wr.setCell ⟨G, k, none⟩ (.int .u64 z)) := hbel.setCell z1 _
      clear hat HF hbel
      go_wp2
      go_loopw [11] (fun i wr => ∃ q : Nat, k ≤ q ∧ q ≤ n ∧ i = .int .i64 q ∧ FilledU wr G (n + 1) (q + 1) (zs.take k ++ z :: zs.drop k) ∧ Below w.heap.size w wr) (fun i _ => n - (intOf i).toNat)
      case atStart => exact ⟨k, by omega, by omega, rfl, HF2.out, hb2⟩
      case round =>
        obtain ⟨q, hq1, hq2, rfl, hf, hbel⟩ := hrel
        have HF := (show Hid (FilledU wr G (n + 1) (q + 1) (zs.take k ++ z :: zs.drop k)) from hf)
        clear hf HF2 hb2 d1 d2
        by_cases hlt2 : q < n
        · obtain ⟨_, h0 | ⟨x, rfl, hx⟩⟩ := HA.out
          · omega
          have cx := cell_later hbel (hx q (by omega))
          have hhi := put_hi (zs := zs) z (by rw [HLZ.out]; exact hj) hq1
          obtain ⟨u, hu⟩ : ∃ u, zs.getD q 0 = u := ⟨_, rfl⟩
          rw [hu] at cx hhi
          obtain ⟨v, d1⟩ := HF.out.cell (show q + 1 < n + 1 by omega)
          have d2 := HF.out.frozen (q + 1)
          have HF2 := (show Hid (FilledU (wr.setCell ⟨G, q + 1, none⟩ (.int .u64 u)) G (n + 1) (q + 1 + 1) (zs.take k ++ z :: zs.drop k)) from HF.out.store (by omega) u hhi)
          have hb2 : Below w.heap.size w (wr.setCell ⟨G, q + 1, none⟩ (.int .u64 u)) := hbel.setCell z1 _
          clear hhi hu hx HF hbel
          have j5 : (q : Int) < n := by omega
          go_wp2
          go_roundw
          case rel => exact ⟨q + 1, by omega, by omega, by go_num, HF2.out, hb2⟩
          case measure => simp [intOf]; omega
        · obtain rfl : q = n := by omega
          have hsz := hbel.size
          have hC1 := chain_any a none q c 0 0 zs wr (by omega) (HA.out.later hbel)
          rw [← HS.out] at hC1
          have H1 := (show Hid (Calls Try.prog 10 #[.slice a q c, .slice none 0 0] wr (Chain wr S)) from hC1)
          have hC2 := fun W (hb : Below wr.heap.size wr W) => chain_any (some ⟨G, 0, none⟩) b' (q + 1) (q + 1) m' d' (zs.take k ++ z :: zs.drop k) W (by omega) ((HF.out.later hb).row (by rw [put_length, HLZ.out]))
          rw [← HT.out] at hC2
          have H2 := (show Hid (∀ W, Below wr.heap.size wr W → Calls Try.prog 10 #[.slice (some ⟨G, 0, none⟩) (q + 1) (q + 1), .slice b' m' d'] W (Chain W T)) from hC2)
          clear hC1 hC2 HF HS HT
          go_wp2_with fail
          refine H1.out.mono ?_
          rintro e x1 ⟨v1, rfl, G1⟩
          clear H1
          go_wp2_with fail
          refine G1.out.mono ?_
          rintro e x2 ⟨rfl, b2⟩
          clear G1
          go_wp2_with fail
          refine (H2.out _ b2).mono ?_
          rintro e x3 ⟨v3, rfl, G1⟩
          clear H2
          go_wp2_with fail
          refine G1.out.mono ?_
          rintro e x4 ⟨rfl, b4⟩
          clear G1
          have b5 := b2.trans (b4.mono b2.size)
          go_wp2
          go_ret
          exact ⟨rfl, hbel.trans (b5.mono hsz)⟩

set_option maxRecDepth 100000 in
set_option maxHeartbeats 2000000 in
theorem put_out (a b : Option Addr) (n c m d : Nat) (z k : Int) (w : World) (h : 65536 < n ∨ (n ≤ 65536 ∧ 65536 < m) ∨ (n ≤ 65536 ∧ m ≤ 65536 ∧ k < 0) ∨ (n ≤ 65536 ∧ m ≤ 65536 ∧ 0 ≤ k ∧ (n : Int) < k)) :
    Calls Try.prog 5 #[.slice a n c, .slice b m d, .int .u64 z, .int .i64 k] w fun e w' => e = .returned (.bool true) ∧ Below w.heap.size w w' := by
  rcases h with h | ⟨h, h2⟩ | ⟨h, h2, h3⟩ | ⟨h, h2, h3, h4⟩
  · have j1 : (65536 : Int) < n := by omega
    go_enter Try.func5, Try.ntmps5
    go_wp2
    all_goals
      go_ret
      exact ⟨rfl, Below.refl _ _⟩
  · have j1 : (n : Int) ≤ 65536 := by omega
    have j2 : (65536 : Int) < m := by omega
    go_enter Try.func5, Try.ntmps5
    go_wp2
    all_goals
      go_ret
      exact ⟨rfl, Below.refl _ _⟩
  · have j1 : (n : Int) ≤ 65536 := by omega
    have j2 : (m : Int) ≤ 65536 := by omega
    go_enter Try.func5, Try.ntmps5
    go_wp2
    go_ret
    exact ⟨rfl, Below.refl _ _⟩
  · have j1 : (n : Int) ≤ 65536 := by omega
    have j2 : (m : Int) ≤ 65536 := by omega
    have j3 : ¬ k < 0 := by omega
    go_enter Try.func5, Try.ntmps5
    go_wp2
    go_ret
    exact ⟨rfl, Below.refl _ _⟩
end Go.Proofs.Qxb6612598a
