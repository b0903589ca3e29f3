/-
  THE WALK OF 'FnRunEntriesAddsOverAnyCut'.
-/
import Derived.Test.Qxb6612598aRun
import Derived.DataElems
namespace Go.Proofs.Qxb6612598a
open Go.RowKit

theorem NumRow.take {w : World} {a : Option Addr} {n : Nat} {zs : List Int} (h : NumRow w a n zs) {K : Nat} (hK : K ≤ n) : NumRow w a K (zs.take K) := by
  refine ⟨by rw [List.length_take, h.1]; omega, ?_⟩
  rcases h.2 with h0 | ⟨x, hx, hc⟩
  · exact .inl (by omega)
  · refine .inr ⟨x, hx, fun i hi => ?_⟩
    rw [hc i (by omega), List.getD_eq_getElem?_getD, List.getD_eq_getElem?_getD, List.getElem?_take, if_pos hi]

theorem NumRow.drop {w : World} {x : Addr} {n : Nat} {zs : List Int} (h : NumRow w (some x) n zs) (K : Nat) : NumRow w (some (x.add K)) (n - K) (zs.drop K) := by
  refine ⟨by rw [List.length_drop, h.1], ?_⟩
  rcases h.2 with h0 | ⟨y, hy, hc⟩
  · exact .inl (by omega)
  · simp only [Option.some.injEq] at hy
    subst hy
    refine .inr ⟨_, rfl, fun i hi => ?_⟩
    rw [Addr.add_add, hc (K + i) (by omega), List.getD_eq_getElem?_getD, List.getD_eq_getElem?_getD, List.getElem?_drop]

theorem NumRow.one {w : World} {x : Addr} {n : Nat} {zs : List Int} (h : NumRow w (some x) n zs) {K : Nat} (hK : K < n) : NumRow w (some (x.add K)) 1 [zs.getD K 0] := by
  refine ⟨rfl, ?_⟩
  rcases h.2 with h0 | ⟨y, hy, hc⟩
  · omega
  · simp only [Option.some.injEq] at hy
    subst hy
    refine .inr ⟨_, rfl, fun i hi => ?_⟩
    obtain rfl : i = 0 := by omega
    rw [Addr.add_add, Nat.add_zero, hc K hK]
    rfl

theorem numRow_none (w : World) (a : Option Addr) {zs : List Int} (h : zs.length = 0) : NumRow w a 0 zs := ⟨h, .inl rfl⟩

/-- 'ZZrunEntries(zzBuildRun(counts, after))': the two calls, one behind the other. -/
def Chain (W : World) (r : Int) (e : Ending) (w1 : World) : Prop :=
  ∃ v1, e = .returned v1 ∧ Hid (Calls Try.prog 9 #[v1] w1 fun e w2 => e = .returned (.int .u64 r) ∧ Below W.heap.size W w2)

theorem chain_any (a b : Option Addr) (n c m d : Nat) (zs : List Int) (W : World) (hn : n ≤ 1048577) (ha : NumRow W a n zs) :
    Calls Try.prog 10 #[.slice a n c, .slice b m d] W (Chain W (sumU zs)) := by
  refine (build_any a b n c m d zs W hn ha).mono ?_
  rintro e w1 ⟨p, rfl, hr, b1⟩
  refine ⟨_, rfl, ?_⟩
  refine (entries_any p n zs w1 hn ha.1 hr).mono ?_
  rintro e w2 ⟨rfl, rfl⟩
  exact ⟨rfl, b1⟩

set_option maxRecDepth 100000 in
set_option maxHeartbeats 4000000 in
theorem adds_nil (w : World) :
    Calls Try.prog 4 #[.slice none 0 0, .int .i64 0] w fun e w' => e = .returned (.bool true) ∧ Below w.heap.size w w' := by
  have hC := fun W => chain_any none none 0 0 0 0 [] W (by omega) (numRow_none W none rfl)
  have HC := (show Hid (∀ W, Calls Try.prog 10 #[.slice none 0 0, .slice none 0 0] W (Chain W 0)) from hC)
  clear hC
  go_enter Try.func4, Try.ntmps4
  go_wp2_with (go_at_call 8; go_in)
  refine (HC.out _).mono ?_
  rintro e x1 ⟨v1, rfl, H1⟩
  go_wp2_with fail
  refine H1.out.mono ?_
  rintro e x2 ⟨rfl, b2⟩
  clear H1
  go_wp2_with fail
  refine (HC.out _).mono ?_
  rintro e x3 ⟨v3, rfl, H1⟩
  go_wp2_with fail
  refine H1.out.mono ?_
  rintro e x4 ⟨rfl, b4⟩
  clear H1
  replace b4 := b2.trans (b4.mono b2.size)
  clear b2
  go_wp2_with fail
  refine (HC.out _).mono ?_
  rintro e x5 ⟨v5, rfl, H1⟩
  go_wp2_with fail
  refine H1.out.mono ?_
  rintro e x6 ⟨rfl, b6⟩
  clear H1
  replace b6 := b4.trans (b6.mono b4.size)
  clear b4
  go_wp2
  go_ret
  exact ⟨rfl, b6⟩

set_option maxRecDepth 100000 in
set_option maxHeartbeats 4000000 in
theorem adds_main (x : Addr) (n c K : Nat) (zs : List Int) (w : World) (ha : NumRow w (some x) n zs) (hn : n ≤ 65536) (hnc : n ≤ c) (hK : K ≤ n) (hw : ∀ i, i < n → 0 ≤ zs.getD i 0 ∧ zs.getD i 0 ≤ 18446744073709551615) :
    Calls Try.prog 4 #[.slice (some x) n c, .int .i64 K] w fun e w' => e = .returned (.bool true) ∧ Below w.heap.size w w' := by
  have HA : Hid (NumRow w (some x) n zs) := ha
  have HW := (show Hid (∀ i, i < n → 0 ≤ zs.getD i 0 ∧ zs.getD i 0 ≤ 18446744073709551615) from hw)
  clear ha hw
  have j1 : (n : Int) ≤ 65536 := by omega
  have j2 : (n : Int) ≤ c := by omega
  have j3 : (K : Int) ≤ n := by omega
  have j4 : (0 : Int) ≤ K := by omega
  obtain ⟨S, hS⟩ : ∃ S, S = sumU zs := ⟨_, rfl⟩
  obtain ⟨L, hL⟩ : ∃ L, L = sumU (zs.take K) := ⟨_, rfl⟩
  obtain ⟨R, hR⟩ : ∃ R, R = sumU (zs.drop K) := ⟨_, rfl⟩
  have hsum : IntKind.u64.wrap (L + R) = S := by rw [hL, hR, hS]; exact sumU_cut zs K
  have hC1 := chain_any (some x) none n c 0 0 zs w (by omega) HA.out
  rw [← hS] at hC1
  have H1 := (show Hid (Calls Try.prog 10 #[.slice (some x) n c, .slice none 0 0] w (Chain w S)) from hC1)
  have hC2 := fun W (hb : Below w.heap.size w W) => chain_any (some x) none K c 0 0 (zs.take K) W (by omega) ((HA.out.later hb).take hK)
  rw [← hL] at hC2
  have H2 := (show Hid (∀ W, Below w.heap.size w W → Calls Try.prog 10 #[.slice (some x) K c, .slice none 0 0] W (Chain W L)) from hC2)
  have HR := (show Hid (R = sumU (zs.drop K)) from hR)
  clear hC1 hC2 hS hL hR
  go_enter Try.func4, Try.ntmps4
  go_wp2_with (go_at_call 8; go_in)
  refine H1.out.mono ?_
  clear H1
  rintro e x1 ⟨v1, rfl, G1⟩
  go_wp2_with fail
  refine G1.out.mono ?_
  rintro e x2 ⟨rfl, b2⟩
  clear G1
  have z2 := b2.size
  go_wp2_with fail
  refine (H2.out _ b2).mono ?_
  clear H2
  rintro e x3 ⟨v3, rfl, G1⟩
  go_wp2_with fail
  refine G1.out.mono ?_
  rintro e x4 ⟨rfl, b4⟩
  clear G1
  replace b4 := b2.trans (b4.mono z2)
  have z4 := b4.size
  clear b2 z2
  -- the part from K on
  have hC3 : ∃ A, (if c = K then some x else some (x.add K)) = some A ∧ Calls Try.prog 10 #[.slice (some A) (n - K) (c - K), .slice none 0 0] x4 (Chain x4 R) := by
    by_cases hc : c = K
    · refine ⟨x, if_pos hc, ?_⟩
      rw [HR.out, show n - K = 0 from by omega]
      exact chain_any _ _ 0 _ _ _ _ x4 (by omega) (numRow_none _ _ (by rw [List.length_drop, HA.out.1]; omega))
    · refine ⟨x.add K, if_neg hc, ?_⟩
      rw [HR.out]
      exact chain_any _ _ _ _ _ _ _ x4 (by omega) ((HA.out.later b4).drop K)
  obtain ⟨A, hA, hC3⟩ := hC3
  have H3 := (show Hid (Calls Try.prog 10 #[.slice (some A) (n - K) (c - K), .slice none 0 0] x4 (Chain x4 R)) from hC3)
  clear hC3
  go_wp2_with fail
  refine H3.out.mono ?_
  clear H3 hA
  rintro e x5 ⟨v5, rfl, G1⟩
  go_wp2_with fail
  refine G1.out.mono ?_
  rintro e x6 ⟨rfl, b6⟩
  clear G1
  replace b6 := b4.trans (b6.mono z4)
  have z6 := b6.size
  clear b4 z4
  by_cases hKn : K < n
  · obtain ⟨h0, h1⟩ := HW.out K hKn
    have hz : ∃ z, zs.getD K 0 = z := ⟨_, rfl⟩
    obtain ⟨z, hz⟩ := hz
    have hC4 := chain_any (some (x.add K)) none 1 (c - K) 0 0 [zs.getD K 0] x6 (by omega) ((HA.out.later b6).one hKn)
    rw [sumU_one _ h0 h1, hz] at hC4
    have H4 := (show Hid (Calls Try.prog 10 #[.slice (some (x.add K)) 1 (c - K), .slice none 0 0] x6 (Chain x6 z)) from hC4)
    have HZ := (show Hid (zs.getD K 0 = z) from hz)
    clear hC4 hz h0 h1
    have hck : ¬ c = K := by omega
    have j5 : (K : Int) + 1 ≤ c := by omega
    have j6 : (K : Int) < n := by omega
    go_wp2_with fail
    refine H4.out.mono ?_
    clear H4
    rintro e x7 ⟨v7, rfl, G1⟩
    go_wp2_with fail
    refine G1.out.mono ?_
    rintro e x8 ⟨rfl, b8⟩
    clear G1
    replace b8 := b6.trans (b8.mono z6)
    have cK : x8.cell? (x.add K) = some (.int .u64 z) := by
      rcases (HA.out.later b8).2 with h | ⟨y, hy, hc⟩
      · omega
      · simp only [Option.some.injEq] at hy
        subst hy
        rw [← HZ.out]
        exact hc K hKn
    go_wp2
    go_ret
    exact ⟨rfl, b8⟩
  · go_wp2
    go_ret
    exact ⟨rfl, b6⟩

set_option maxRecDepth 100000 in
set_option maxHeartbeats 1000000 in
theorem adds_out (a : Option Addr) (n c : Nat) (k : Int) (w : World) (h : 65536 < n ∨ (n ≤ 65536 ∧ k < 0) ∨ (n ≤ 65536 ∧ 0 ≤ k ∧ (n : Int) < k)) :
    Calls Try.prog 4 #[.slice a n c, .int .i64 k] w fun e w' => e = .returned (.bool true) ∧ Below w.heap.size w w' := by
  rcases h with h | ⟨h, h2⟩ | ⟨h, h2, h3⟩
  · have j1 : (65536 : Int) < n := by omega
    by_cases h1 : 1048576 < n
    · have j2 : (1048576 : Int) < n := by omega
      go_enter Try.func4, Try.ntmps4
      go_wp2
      go_ret
      exact ⟨rfl, Below.refl _ _⟩
    · have j2 : (n : Int) ≤ 1048576 := by omega
      go_enter Try.func4, Try.ntmps4
      go_wp2
      go_ret
      exact ⟨rfl, Below.refl _ _⟩
  · have j1 : (n : Int) ≤ 65536 := by omega
    go_enter Try.func4, Try.ntmps4
    go_wp2
    go_ret
    exact ⟨rfl, Below.refl _ _⟩
  · have j1 : (n : Int) ≤ 65536 := by omega
    have j2 : ¬ k < 0 := by omega
    go_enter Try.func4, Try.ntmps4
    go_wp2
    go_ret
    exact ⟨rfl, Below.refl _ _⟩
end Go.Proofs.Qxb6612598a
