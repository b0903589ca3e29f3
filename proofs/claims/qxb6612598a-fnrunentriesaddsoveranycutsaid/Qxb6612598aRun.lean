/-
  'ZZnewReader', 'ZZnewTableFile', 'ZZnewRun', 'zzBuildRun', '(*run).entries': a run of tables, and what it counts.
-/
import Derived.Test.Qxb6612598aSize
namespace Go.Proofs.Qxb6612598a
open Go.RowKit

theorem info37 : (Try.prog.info? 37).map (fun i => (i.zero, i.size, i.bytes)) = some (some (.pointer none), 1, 8) := by kernel_rfl

theorem lt_alloc (w : World) (o : Obj) : w.heap.size < (w.alloc o).heap.size := by simp

set_option maxRecDepth 100000 in
theorem reader_any (z : Int) (w : World) :
    Calls Try.prog 16 #[.int .u64 z] w fun e w' => ∃ r, e = .returned (.pointer (some ⟨r, 0, none⟩)) ∧ w.heap.size ≤ r ∧ w'.cell? ⟨r, 11, none⟩ = some (.int .u64 z) ∧ Below w.heap.size w w' := by
  go_enter Try.func16, Try.ntmps16
  go_wp2
  go_ret
  exact ⟨_, rfl, Nat.le_refl _, by simp, (Below.refl _ _).alloc (Nat.le_refl _) _⟩

set_option maxRecDepth 100000 in
theorem file_any (p : Addr) (w : World) :
    Calls Try.prog 15 #[.pointer (some p)] w fun e w' => ∃ q, e = .returned (.pointer (some ⟨q, 0, none⟩)) ∧ w.heap.size ≤ q ∧ w'.cell? ⟨q, 0, none⟩ = some (.pointer (some p)) ∧ Below w.heap.size w w' := by
  go_enter Try.func15, Try.ntmps15
  go_wp2
  go_ret
  exact ⟨_, rfl, Nat.le_refl _, by simp, (Below.refl _ _).alloc (Nat.le_refl _) _⟩

set_option maxRecDepth 100000 in
theorem newRun_any (a b : Option Addr) (n c m d : Nat) (w : World) :
    Calls Try.prog 17 #[.slice a n c, .slice b m d] w fun e w' => ∃ p, e = .returned (.pointer (some ⟨p, 0, none⟩)) ∧ w'.cell? ⟨p, 0, none⟩ = some (.slice a n c) ∧ Below w.heap.size w w' := by
  go_enter Try.func17, Try.ntmps17
  go_wp2
  go_ret
  exact ⟨_, rfl, by simp, (Below.refl _ _).alloc (Nat.le_refl _) _⟩

/-- A pointer to a table file whose reader holds z; both blocks lie behind block g. -/
def TabAt (w : World) (g : Nat) (v : Value) (z : Int) : Prop :=
  ∃ q r, v = .pointer (some ⟨q, 0, none⟩) ∧ g < q ∧ g < r ∧ w.cell? ⟨q, 0, none⟩ = some (.pointer (some ⟨r, 0, none⟩)) ∧ w.cell? ⟨r, 11, none⟩ = some (.int .u64 z)

theorem TabAt.later {w w' : World} {g : Nat} {v : Value} {z : Int} (h : TabAt w g v z) (hb : Below w.heap.size w w') : TabAt w' g v z := by
  obtain ⟨q, r, hv, h1, h2, h3, h4⟩ := h
  exact ⟨q, r, hv, h1, h2, cell_later hb h3, cell_later hb h4⟩

theorem TabAt.beside {w : World} {g : Nat} {v : Value} {z : Int} (h : TabAt w g v z) (i : Nat) (u : Value) : TabAt (w.setCell ⟨g, i, none⟩ u) g v z := by
  obtain ⟨q, r, hv, h1, h2, h3, h4⟩ := h
  refine ⟨q, r, hv, h1, h2, ?_, ?_⟩
  · rw [World.cell?_of_block (w := w) (Below.heap_setCell w _ _ _ (by exact Nat.ne_of_gt h1))]; exact h3
  · rw [World.cell?_of_block (w := w) (Below.heap_setCell w _ _ _ (by exact Nat.ne_of_gt h2))]; exact h4

/-- A row of n pointers whose first k lead to tables that hold zs. -/
def Tables (w : World) (g n k : Nat) (zs : List Int) : Prop :=
  ∃ ys, w.ownsRow g 37 1 (.slice (some ⟨g, 0, none⟩) n n) n ys ∧ ∀ i, i < k → ∃ v, ys[i]? = some v ∧ TabAt w g v (zs.getD i 0)

theorem ownsRow_later {w w' : World} {B e size n : Nat} {v : Value} {xs : List Value} (h : w.ownsRow B e size v n xs) (hb : Below w.heap.size w w') : w'.ownsRow B e size v n xs := by
  refine ⟨h.1, ?_⟩
  rcases h.2 with h0 | ⟨g, cap, cur, hv, hB, hg, r⟩
  · exact .inl h0
  · exact .inr ⟨g, cap, cur, hv, hB, by rw [hb.block g (Array.getElem?_eq_some_iff.1 hg).1]; exact hg, r⟩

theorem Tables.later {w w' : World} {g n k : Nat} {zs : List Int} (h : Tables w g n k zs) (hb : Below w.heap.size w w') : Tables w' g n k zs := by
  obtain ⟨ys, ho, hy⟩ := h
  refine ⟨ys, ownsRow_later ho hb, fun i hi => ?_⟩
  obtain ⟨v, h1, h2⟩ := hy i hi
  exact ⟨v, h1, h2.later hb⟩

theorem Tables.cell {w : World} {g n k : Nat} {zs : List Int} (h : Tables w g n k zs) {i : Nat} (hi : i < n) : ∃ v, w.cell? ⟨g, i, none⟩ = some v := by
  obtain ⟨ys, ho, _⟩ := h
  have hl : ys.length = n := by simpa using ho.1
  exact ⟨ys[i]'(by omega), (ho.cellAt i (by omega)).trans (List.getElem?_eq_getElem (by omega))⟩

theorem Tables.frozen {w : World} {g n k : Nat} {zs : List Int} (h : Tables w g n k zs) (i : Nat) : w.frozen? ⟨g, i, none⟩ = false := by
  obtain ⟨ys, ho, _⟩ := h
  exact ho.frozenAt i

theorem Tables.lt {w : World} {g n k : Nat} {zs : List Int} (h : Tables w g n k zs) : g < w.heap.size := by
  obtain ⟨ys, ho, _⟩ := h
  exact (ho.lt g rfl).2

theorem Tables.store {w : World} {g n k : Nat} {zs : List Int} (h : Tables w g n k zs) (hk : k < n) {v : Value} (hv : TabAt w g v (zs.getD k 0)) : Tables (w.setCell ⟨g, k, none⟩ v) g n (k + 1) zs := by
  obtain ⟨ys, ho, hy⟩ := h
  have hl : ys.length = n := by simpa using ho.1
  refine ⟨_, (ho.stored k v).1, fun i hi => ?_⟩
  rw [List.getElem?_set]
  by_cases e : k = i
  · subst e
    exact ⟨v, by rw [if_pos rfl, if_pos (by omega)], hv.beside _ _⟩
  · rw [if_neg e]
    obtain ⟨u, h1, h2⟩ := hy i (by omega)
    exact ⟨u, h1, h2.beside _ _⟩

/-- A slice of uint64 that came in, or that the law has made. -/
def NumRow (w : World) (a : Option Addr) (n : Nat) (zs : List Int) : Prop :=
  zs.length = n ∧ (n = 0 ∨ ∃ x, a = some x ∧ ∀ i, i < n → w.cell? (x.add i) = some (.int .u64 (zs.getD i 0)))

theorem NumRow.later {w w' : World} {a : Option Addr} {n : Nat} {zs : List Int} (h : NumRow w a n zs) (hb : Below w.heap.size w w') : NumRow w' a n zs := by
  refine ⟨h.1, ?_⟩
  rcases h.2 with h0 | ⟨x, hx, hc⟩
  · exact .inl h0
  · exact .inr ⟨x, hx, fun i hi => cell_later hb (hc i hi)⟩

/-- A run: a pointer to a struct whose first field is a row of such tables. -/
def RunAt (w : World) (p n : Nat) (zs : List Int) : Prop := ∃ g, w.cell? ⟨p, 0, none⟩ = some (.slice (some ⟨g, 0, none⟩) n n) ∧ Tables w g n n zs

set_option maxRecDepth 100000 in
set_option maxHeartbeats 1000000 in
theorem build_any (a b : Option Addr) (n c m d : Nat) (zs : List Int) (w : World) (hn : n ≤ 1048577) (ha : NumRow w a n zs) :
    Calls Try.prog 10 #[.slice a n c, .slice b m d] w fun e w' => ∃ p, e = .returned (.pointer (some ⟨p, 0, none⟩)) ∧ RunAt w' p n zs ∧ Below w.heap.size w w' := by
  have HA : Hid (NumRow w a n zs) := ha
  clear ha
  have hn' : (n : Int) ≤ 1048577 := by omega
  obtain ⟨i0, hi, hz0, hz1, hz2⟩ := info_parts info37
  go_enter Try.func10, Try.ntmps10
  go_wp2_with (at_make; refine wpList_make_full _ rfl _ _ 36 rfl w.heap.size 37 i0 _ 1 Try.underlying36 hi hz0 hz1 _ _ _ _ n rfl rfl rfl rfl ?c1 ?c2 ?c3 ?_)
  case c1 => rw [hz2]; omega
  case c2 => unfold maxLen; omega
  case c3 => exact Nat.le_refl _
  intro w1 o1 g1
  have b1 : Below w.heap.size w w1 := (Below.refl _ w).grown g1 (Nat.le_refl _) (fun k hk => by cases hk)
  have T1 := (show Hid (Tables w1 w.heap.size n 0 zs) from ⟨_, o1, fun i hi => by omega⟩)
  clear g1 o1
  go_wp2
  go_loopw [6] (fun i wr => ∃ k : Nat, k ≤ n ∧ i = .int .i64 k ∧ Tables wr w.heap.size n k zs ∧ Below w.heap.size w wr) (fun i _ => n - (intOf i).toNat)
  case atStart => exact ⟨0, by omega, rfl, T1.out, b1⟩
  case round =>
    obtain ⟨k, hk, rfl, ht, hbel⟩ := hrel
    have HT := (show Hid (Tables wr w.heap.size n k zs) from ht)
    clear ht T1 b1
    have hsz := hbel.size
    by_cases hlt : k < n
    · obtain ⟨_, h0 | ⟨x, rfl, hx⟩⟩ := HA.out
      · omega
      have cx := cell_later hbel (hx k hlt)
      clear hx
      have hgw := HT.out.lt
      generalize hz : zs.getD k 0 = z at *
      have HZ := (show Hid (zs.getD k 0 = z) from hz)
      clear hz
      go_wp2_with fail
      refine (reader_any z wr).mono ?_
      rintro e x1 ⟨r, rfl, hr, cr, b1⟩
      go_wp2_with fail
      refine (file_any ⟨r, 0, none⟩ x1).mono ?_
      rintro e x2 ⟨q, rfl, hq, cq, b2⟩
      have b12 : Below wr.heap.size wr x2 := b1.trans (b2.mono b1.size)
      have HT2 := (show Hid (Tables x2 w.heap.size n k zs) from HT.out.later b12)
      obtain ⟨v0, d1⟩ := HT2.out.cell hlt
      have d2 := HT2.out.frozen k
      have hTab : TabAt x2 w.heap.size (.pointer (some ⟨q, 0, none⟩)) (zs.getD k 0) := ⟨q, r, rfl, by have := b1.size; omega, by omega, cq, by rw [HZ.out]; exact cell_later b2 cr⟩
      have HT3 := (show Hid (Tables (x2.setCell ⟨w.heap.size, k, none⟩ (.pointer (some ⟨q, 0, none⟩))) w.heap.size n (k + 1) zs) from HT2.out.store hlt hTab)
      have hb3 : Below w.heap.size w (x2.setCell ⟨w.heap.size, k, none⟩ (.pointer (some ⟨q, 0, none⟩))) := (hbel.trans (b12.mono hsz)).setCell (Nat.le_refl _) _
      clear HT HT2 hTab cq cr b1 b2 b12 hbel
      go_wp2
      go_roundw
      case rel => exact ⟨k + 1, by omega, by go_num, HT3.out, hb3⟩
      case measure => simp [intOf]; omega
    · obtain rfl : k = n := by omega
      go_wp2_with fail
      refine (newRun_any _ _ _ _ _ _ wr).mono ?_
      rintro e x1 ⟨p, rfl, cp, b1⟩
      go_wp2
      go_ret
      exact ⟨p, rfl, ⟨_, cp, HT.out.later b1⟩, hbel.trans (b1.mono hsz)⟩

/-- The sum of uint64s, as Go adds them. -/
def sumU (zs : List Int) : Int := zs.foldl (fun s z => IntKind.u64.wrap (s + z)) 0

/-- 2 to the 64. -/
def M64 : Int := 18446744073709551616

theorem wrap_M (n : Int) : IntKind.u64.wrap n = n % M64 := by simp [IntKind.wrap, IntKind.bits, IntKind.signed, M64]

theorem mod_left (a b : Int) : (a % M64 + b) % M64 = (a + b) % M64 := by unfold M64; omega
theorem mod_both (a b : Int) : (a % M64 + b % M64) % M64 = (a + b) % M64 := by unfold M64; omega

theorem fold_sum : ∀ (zs : List Int) (s : Int), zs.foldl (fun s z => IntKind.u64.wrap (s + z)) (s % M64) = (s + zs.sum) % M64
  | [], s => by simp
  | z :: r, s => by
    rw [List.foldl_cons, wrap_M, mod_left, fold_sum r (s + z), List.sum_cons, Int.add_assoc]

theorem sumU_sum (zs : List Int) : sumU zs = zs.sum % M64 := by
  have h := fold_sum zs 0
  rw [Int.zero_add] at h
  exact h

theorem sumU_cut (zs : List Int) (k : Nat) : IntKind.u64.wrap (sumU (zs.take k) + sumU (zs.drop k)) = sumU zs := by
  rw [wrap_M, sumU_sum, sumU_sum, sumU_sum, mod_both, ← List.sum_append, List.take_append_drop]

theorem sumU_one (z : Int) (h0 : 0 ≤ z) (h1 : z ≤ 18446744073709551615) : sumU [z] = z := by
  rw [sumU_sum]
  simp only [List.sum_cons, List.sum_nil, Int.add_zero]
  unfold M64
  omega

theorem sumU_put (zs : List Int) (k : Nat) (c : Int) : sumU (zs.take k ++ c :: zs.drop k) = IntKind.u64.wrap (sumU zs + c) := by
  rw [wrap_M, sumU_sum, sumU_sum, mod_left]
  congr 1
  have h : zs.sum = (zs.take k).sum + (zs.drop k).sum := by rw [← List.sum_append, List.take_append_drop]
  rw [h, List.sum_append, List.sum_cons]
  omega

theorem sumU_step {zs : List Int} {k : Nat} (hk : k < zs.length) : sumU (zs.take (k + 1)) = IntKind.u64.wrap (sumU (zs.take k) + zs.getD k 0) := by
  rw [List.take_succ_eq_append_getElem hk, List.getD_eq_getElem?_getD, List.getElem?_eq_getElem hk]
  unfold sumU
  rw [List.foldl_append]
  rfl

theorem Tables.at {w : World} {g n k : Nat} {zs : List Int} (h : Tables w g n k zs) (hkn : k ≤ n) {i : Nat} (hi : i < k) :
    ∃ q r, w.cell? ⟨g, i, none⟩ = some (.pointer (some ⟨q, 0, none⟩)) ∧ w.cell? ⟨q, 0, none⟩ = some (.pointer (some ⟨r, 0, none⟩)) ∧ w.cell? ⟨r, 11, none⟩ = some (.int .u64 (zs.getD i 0)) := by
  obtain ⟨ys, ho, hy⟩ := h
  obtain ⟨v, h1, q, r, rfl, _, _, h2, h3⟩ := hy i hi
  exact ⟨q, r, (ho.cellAt i (by omega)).trans h1, h2, h3⟩

set_option maxRecDepth 100000 in
set_option maxHeartbeats 1000000 in
theorem entries_any (p n : Nat) (zs : List Int) (w : World) (hn : n ≤ 1048577) (hl : zs.length = n) (hr : RunAt w p n zs) :
    Calls Try.prog 9 #[.pointer (some ⟨p, 0, none⟩)] w fun e w' => e = .returned (.int .u64 (sumU zs)) ∧ w = w' := by
  obtain ⟨g, cp, ht⟩ := hr
  have HT := (show Hid (Tables w g n n zs) from ht)
  clear ht
  have hn' : (n : Int) ≤ 1048577 := by omega
  go_enter Try.func9, Try.ntmps9
  go_wp2
  go_loop [3, 11] (fun s i => ∃ k : Nat, k ≤ n ∧ i = .int .i64 k ∧ s = .int .u64 (sumU (zs.take k))) (fun _ i => n - (intOf i).toNat)
  case atStart => exact ⟨0, by omega, rfl, rfl⟩
  case round =>
    obtain ⟨k, hk, rfl, rfl⟩ := hrel
    by_cases hlt : k < n
    · obtain ⟨q, r, c1, c2, c3⟩ := HT.out.at (Nat.le_refl _) hlt
      generalize hz : zs.getD k 0 = z at *
      have HZ := (show Hid (zs.getD k 0 = z) from hz)
      clear hz
      generalize hs : sumU (zs.take k) = s at *
      have HS := (show Hid (sumU (zs.take k) = s) from hs)
      clear hs
      go_wp2
      go_round
      case rel => exact ⟨k + 1, by omega, by go_num, by rw [sumU_step (by omega), HZ.out, HS.out]⟩
      case measure => simp [intOf]; omega
    · have HF := (show Hid (zs.take k = zs) from List.take_of_length_le (by omega))
      go_wp2
      go_ret
      refine ⟨?_, rfl⟩
      show Ending.returned (.int .u64 (sumU (zs.take k))) = _
      rw [HF.out]
end Go.Proofs.Qxb6612598a
