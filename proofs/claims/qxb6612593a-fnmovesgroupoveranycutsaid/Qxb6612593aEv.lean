/-
  Rows of strings and of events; 'ZZevents'.
-/
import Derived.Test.Qxb6612593aRows
import Derived.WalkKit
import Derived.ProofKit
import Derived.Below
import Derived.WalkSpells
import Derived.WalkSmall
import Derived.BigQuiet
import Derived.Deep.QuietTactic
import Derived.Deep.RegionLaw
namespace Go.Proofs.Qxb6612593a
open Go.RowKit

theorem info45 : (Try.prog.info? 45).map (fun i => (i.zero, i.size, i.bytes)) = some (some (.agg #[.string ⟨#[]⟩, .string ⟨#[]⟩]), 2, 32) := by kernel_rfl

/-- The cells of a row of events. -/
def evCells : List (ByteArray × ByteArray) → List Value
  | [] => []
  | e :: r => .string e.1 :: .string e.2 :: evCells r

theorem evCells_length : ∀ l, (evCells l).length = l.length * 2
  | [] => rfl
  | e :: r => by simp [evCells, evCells_length r]; omega

theorem evCells_append : ∀ l m, evCells (l ++ m) = evCells l ++ evCells m
  | [], m => rfl
  | e :: r, m => by simp [evCells, evCells_append r m]

theorem ev_step {ts ss : List ByteArray} {k : Nat} (h1 : k < ts.length) (h2 : k < ss.length) :
    evCells ((ts.zip ss).take (k + 1)) = evCells ((ts.zip ss).take k) ++ [.string (ts.getD k ByteArray.empty), .string (ss.getD k ByteArray.empty)] := by
  rw [List.take_succ_eq_append_getElem (by simp; omega), evCells_append]
  simp [evCells, List.getD_eq_getElem?_getD, h1, h2]

/-- A slice of strings: its cells hold the strings ts. -/
def StrRow (w : World) (a : Option Addr) (n : Nat) (ts : List ByteArray) : Prop :=
  ts.length = n ∧ (n = 0 ∨ ∃ x, a = some x ∧ ∀ i, i < n → w.cell? (x.add i) = some (.string (ts.getD i ByteArray.empty)))

/-- 'append' WITHIN THE CAPACITY onto a row of the call's own, as one step of a region that draws. -/
theorem step_append_fits {P : Program} {ops : Array Oper} {o : Oper} {a : Act} {w : World} {K : Act → World → Prop} {Q : Exit → Act → World → Prop} {E : Prop}
    (hg : o.guard = none) (s x : Operand) (t : TypeId) (hop : o.op = Op.call { callee := Callee.builtin Builtin.append, args := #[s, x], argTypes := #[t, t] })
    (base : Nat) (e : TypeId) (i : TypeInfo) (size : Nat) (h1 : P.underlying t = some (.slice e)) (h2 : P.info? e = some i) (h4 : i.size = size)
    (g k cap : Nat) (xs : List Value) (hs : a.eval s = .slice (some ⟨g, 0, none⟩) k cap) (hown : w.ownsRow base e size (.slice (some ⟨g, 0, none⟩) k cap) k xs)
    (ad : Addr) (m c : Nat) (news : List Value) (hx : a.eval x = .slice (some ad) m c) (hn : news.length = m * size)
    (hc : ∀ j u, news[j]? = some u → w.cell? (ad.add j) = some u) (h1c : ∀ u ∈ news, u.oneCell' = true) (b1 : k + m ≤ cap)
    (hK : ∀ w', w'.ownsRow base e size (.slice (some ⟨g, 0, none⟩) (k + m) cap) (k + m) (xs ++ news) → w.grownBy w' (some g) → K (a.put o.dst (.slice (some ⟨g, 0, none⟩) (k + m) cap)) w') :
    if Region.wanted o (yielded ops a.tmps) = true then Oper.wp P o a w K Q else E := by
  have hw : Region.wanted o (yielded ops a.tmps) = true := by simp [Region.wanted, hg]
  rw [if_pos hw]
  obtain ⟨w', hrun, r1, r2⟩ := run_append_fits (P := P) w base t o.type e i size h1 h2 h4 g k cap xs hown ad m c news hn hc h1c b1
  unfold Oper.wp
  simp [execOp, hop, resolve, invoke, builtin, hs, hx, hrun, Result.andThen]
  exact hK w' r1 r2

theorem cell_two_new (w : World) (x y : Value) (t : TypeId) : ∀ j u, [x, y][j]? = some u → (w.alloc (.cells #[x, y] t)).cell? ((⟨w.heap.size, 0, none⟩ : Addr).add j) = some u := by
  intro j u hj
  match j, hj with
  | 0, hj => simp at hj; subst hj; simp [Addr.add]
  | 1, hj => simp at hj; subst hj; simp [Addr.add]

theorem two_cells (t s : ByteArray) : ∀ u ∈ [Value.string t, Value.string s], u.oneCell' = true := by
  intro u hu
  simp at hu
  rcases hu with rfl | rfl <;> rfl

set_option maxHeartbeats 1000000 in
theorem events_any (a b : Option Addr) (n ca cb : Nat) (ts ss : List ByteArray) (w : World) (hn : n ≤ 1048577) (ha : StrRow w a n ts) (hb : StrRow w b n ss) :
    Calls Try.prog 6 #[.slice a n ca, .slice b n cb] w fun e w' => e = .returned (.slice (some ⟨w.heap.size, 0, none⟩) n n) ∧ w'.ownsRow w.heap.size 45 2 (.slice (some ⟨w.heap.size, 0, none⟩) n n) n (evCells (ts.zip ss)) ∧ Below w.heap.size w w' := by
  have HA : Hid (StrRow w a n ts) := ha
  have HB : Hid (StrRow w b n ss) := hb
  clear ha hb
  have hn' : (n : Int) ≤ 1048577 := by omega
  obtain ⟨i0, hi, hz0, hz1, hz2⟩ := info_parts info45
  go_enter Try.func6, Try.ntmps6
  go_wp2_with (at_make; refine wpList_make_own _ rfl _ _ 23 rfl w.heap.size 45 i0 _ 2 Try.underlying23 hi hz0 hz1 _ _ _ n rfl rfl rfl ?c1 ?c2 ?c3 ?_)
  case c1 => rw [hz2]; omega
  case c2 => unfold maxLen; omega
  case c3 => exact Nat.le_refl _
  intro w1 o1 g1
  have b1 : Below w.heap.size w w1 := (Below.refl _ w).grown g1 (Nat.le_refl _) (fun k hk => by cases hk)
  clear g1
  go_wp2
  go_loopw [5, 6] (fun o i wr => ∃ k : Nat, k ≤ n ∧ i = .int .i64 k ∧ o = .slice (some ⟨w.heap.size, 0, none⟩) k n ∧ wr.ownsRow w.heap.size 45 2 (.slice (some ⟨w.heap.size, 0, none⟩) k n) k (evCells ((ts.zip ss).take k)) ∧ Below w.heap.size w wr)
    (fun _ i _ => n - (intOf i).toNat)
  case atStart => exact ⟨0, by omega, rfl, rfl, o1, b1⟩
  case round =>
    obtain ⟨k, hk, rfl, rfl, ho, hbel⟩ := hrel
    clear o1 b1
    have hsz := hbel.size
    by_cases hlt : k < n
    · obtain ⟨hl1, h0 | ⟨x, rfl, hx⟩⟩ := HA.out
      · omega
      obtain ⟨hl2, h0 | ⟨y, rfl, hy⟩⟩ := HB.out
      · omega
      have cx := cell_later hbel (hx k hlt)
      have cy := cell_later hbel (hy k hlt)
      have HT : Hid (evCells ((ts.zip ss).take (k + 1)) = evCells ((ts.zip ss).take k) ++ [.string (ts.getD k ByteArray.empty), .string (ss.getD k ByteArray.empty)]) := ev_step (by omega) (by omega)
      generalize ts.getD k ByteArray.empty = t at *
      generalize ss.getD k ByteArray.empty = s at *
      clear hx hy HA HB hl1 hl2
      go_wp2
      go_region_law (refine step_append_fits rfl (.tmp 22) (.tmp 32) 23 rfl w.heap.size 45 i0 2 Try.underlying23 hi hz1 w.heap.size k n (evCells ((ts.zip ss).take k)) rfl (ho.alloc _) ⟨wr.heap.size, 0, none⟩ 1 1 [.string t, .string s] rfl rfl (cell_two_new _ _ _ _) (two_cells t s) hlt ?_; intro w2 o2 g2)
      all_goals
        have hb2 : Below w.heap.size w w2 := ((hbel.alloc hsz _).drew).grown g2 (((hbel.alloc hsz _).drew).size) (fun g hg => by cases hg; exact Nat.le_refl _)
        clear g2 ho cx cy hbel
        go_wp2
        go_roundw
        case rel => exact ⟨k + 1, by omega, by go_num, rfl, by rw [HT.out]; exact o2, hb2⟩
        case measure => simp [intOf]; omega
    · obtain rfl : k = n := by omega
      have HZ : Hid (evCells ((ts.zip ss).take k) = evCells (ts.zip ss)) := by
        have h1 := HA.out.1
        have h2 := HB.out.1
        show evCells ((ts.zip ss).take k) = evCells (ts.zip ss)
        rw [List.take_of_length_le (by simp; omega)]
      go_wp2
      go_ret
      exact ⟨rfl, by rw [← HZ.out]; exact ho, hbel⟩
end Go.Proofs.Qxb6612593a
