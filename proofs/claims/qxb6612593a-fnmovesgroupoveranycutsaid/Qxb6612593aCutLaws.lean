/-
  What the walk of 'FnMovesGroupOverAnyCut' leans on, outside the walk.
-/
import Derived.Test.Qxb6612593aCopy
import Derived.Test.Qxb6612593aStMain
namespace Go.Proofs.Qxb6612593a
open Go.RowKit

/-- 'ZZmovesGroup(ZZnewChange(hold, ZZevents(a, b)))': the three calls, one behind the other. -/
def Chain (hold : Bool) (W : World) (r : Bool) (e : Ending) (w1 : World) : Prop :=
  ∃ v1, e = .returned v1 ∧ Hid (Calls Try.prog 9 #[.bool hold, v1] w1 fun e w2 => ∃ v2, e = .returned v2 ∧ Hid (Calls Try.prog 8 #[v2] w2 fun e w3 => e = .returned (.bool r) ∧ Below W.heap.size W w3))

theorem chain_any (hold : Bool) (a b : Option Addr) (n ca cb : Nat) (ts ss : List ByteArray) (r : Bool) (W : World) (hn : n ≤ 1048577) (ha : StrRow W a n ts) (hb : StrRow W b n ss) (hr : (!hold || anyOwn (ts.zip ss)) = r) :
    Calls Try.prog 6 #[.slice a n ca, .slice b n cb] W (Chain hold W r) := by
  refine (events_any a b n ca cb ts ss W hn ha hb).mono ?_
  rintro e w1 ⟨rfl, o1, b1⟩
  refine ⟨_, rfl, ?_⟩
  refine (newChange_any hold _ _ _ w1).mono ?_
  rintro e w2 ⟨rfl, b2⟩
  refine ⟨_, rfl, ?_⟩
  refine (moves_any hold _ _ _ (ts.zip ss) w2 (by omega) (evRow_of (ownsRow_later o1 b2))).mono ?_
  rintro e w3 ⟨rfl, b3⟩
  refine ⟨by rw [hr], ?_⟩
  have b12 := b1.trans (b2.mono b1.size)
  exact b12.trans (b3.mono b12.size)

theorem strRow_take {w : World} {a : Option Addr} {n : Nat} {ts : List ByteArray} (h : StrRow w a n ts) {K : Nat} (hK : K ≤ n) : StrRow w a K (ts.take K) := by
  refine ⟨by rw [List.length_take, h.1]; omega, ?_⟩
  rcases h.2 with h0 | ⟨x, hx, hc⟩
  · exact .inl (by omega)
  · refine .inr ⟨x, hx, fun i hi => ?_⟩
    rw [hc i (by omega), List.getD_eq_getElem?_getD, List.getD_eq_getElem?_getD, List.getElem?_take, if_pos hi]

theorem strRow_drop {w : World} {g n : Nat} {ts : List ByteArray} (h : StrRow w (some ⟨g, 0, none⟩) n ts) {K : Nat} (hK : K < n) : StrRow w (some ⟨g, K, none⟩) (n - K) (ts.drop K) := by
  refine ⟨by rw [List.length_drop, h.1], ?_⟩
  rcases h.2 with h0 | ⟨x, hx, hc⟩
  · exact .inl (by omega)
  · refine .inr ⟨_, rfl, fun i hi => ?_⟩
    simp only [Option.some.injEq] at hx
    subst hx
    have e1 : (⟨g, K, none⟩ : Addr).add i = (⟨g, 0, none⟩ : Addr).add (K + i) := by unfold Addr.add; simp only []; split <;> split <;> simp_all <;> omega
    rw [e1, hc (K + i) (by omega), List.getD_eq_getElem?_getD, List.getD_eq_getElem?_getD, List.getElem?_drop]

theorem strRow_none (w : World) (a : Option Addr) {ts : List ByteArray} (h : ts.length = 0) : StrRow w a 0 ts := ⟨h, .inl rfl⟩

theorem zip_cut : ∀ (K : Nat) (ts ss : List ByteArray), ts.zip ss = (ts.take K).zip (ss.take K) ++ (ts.drop K).zip (ss.drop K)
  | 0, ts, ss => by simp
  | K + 1, [], ss => by simp
  | K + 1, t :: ts, [] => by simp
  | K + 1, t :: ts, s :: ss => by
    have h := zip_cut K ts ss
    simp only [List.zip_cons_cons, List.take_succ_cons, List.drop_succ_cons, List.cons_append]
    rw [← h]

theorem own_cut (ts ss : List ByteArray) (K : Nat) : anyOwn (ts.zip ss) = (anyOwn ((ts.take K).zip (ss.take K)) || anyOwn ((ts.drop K).zip (ss.drop K))) := by
  unfold anyOwn
  rw [zip_cut K ts ss, List.any_append]

theorem zip_last : ∀ (ts ss : List ByteArray) (t s : ByteArray), ts.length = ss.length → (ts ++ [t]).zip (ss ++ [s]) = ts.zip ss ++ [(t, s)]
  | [], [], t, s, _ => rfl
  | [], _ :: _, _, _, h => by simp at h
  | _ :: _, [], _, _, h => by simp at h
  | a :: ts, b :: ss, t, s, h => by
    have e := zip_last ts ss t s (by simpa using h)
    simp only [List.cons_append, List.zip_cons_cons, e]

theorem own_last (ts ss : List ByteArray) (typ : ByteArray) (h : ts.length = ss.length) : anyOwn ((ts ++ [typ]).zip (ss ++ [⟨#[]⟩])) = true := by
  unfold anyOwn
  rw [zip_last ts ss typ ⟨#[]⟩ h, List.any_append]
  simp [ByteArray.toList_eq]

theorem own_steps (us vs : List ByteArray) (h : ∀ v ∈ vs, v.toList.isEmpty = false) : anyOwn (us.zip vs) = false := by
  unfold anyOwn
  rw [List.any_eq_false]
  rintro ⟨u, v⟩ he
  rw [h v (List.of_mem_zip he).2]
  simp

/-- A made row of n + 1 strings whose first j are those of ts. -/
def Filled (B : Nat) (w : World) (g m j : Nat) (ts : List ByteArray) : Prop :=
  ∃ ys, w.ownsRow B 9 1 (.slice (some ⟨g, 0, none⟩) m m) m ys ∧ ∀ i, i < j → ys[i]? = some (.string (ts.getD i ByteArray.empty))

theorem Filled.cell {B : Nat} {w : World} {g m j : Nat} {ts : List ByteArray} (h : Filled B w g m j ts) {i : Nat} (hi : i < m) : ∃ v, w.cell? ⟨g, i, none⟩ = some v := by
  obtain ⟨ys, ho, _⟩ := h
  have hl : ys.length = m := by simpa using ho.1
  exact ⟨ys[i]'(by omega), (ho.cellAt i (by omega)).trans (List.getElem?_eq_getElem (by omega))⟩

theorem Filled.frozen {B : Nat} {w : World} {g m j : Nat} {ts : List ByteArray} (h : Filled B w g m j ts) (i : Nat) : w.frozen? ⟨g, i, none⟩ = false := by
  obtain ⟨ys, ho, _⟩ := h
  exact ho.frozenAt i

theorem Filled.store {B : Nat} {w : World} {g m j : Nat} {ts : List ByteArray} (h : Filled B w g m j ts) (hj : j < m) (t : ByteArray) (ht : t = ts.getD j ByteArray.empty) : Filled B (w.setCell ⟨g, j, none⟩ (.string t)) g m (j + 1) ts := by
  obtain ⟨ys, ho, hy⟩ := h
  have hl : ys.length = m := by simpa using ho.1
  refine ⟨_, (ho.stored j (.string t)).1, fun i hi => ?_⟩
  rw [List.getElem?_set]
  by_cases e : j = i
  · subst e
    rw [if_pos rfl, if_pos (by omega), ht]
  · rw [if_neg e]
    exact hy i (by omega)

theorem Filled.beside {B : Nat} {w : World} {g m j : Nat} {ts : List ByteArray} (h : Filled B w g m j ts) {g' i : Nat} (hg : g' ≠ g) (u : Value) : Filled B (w.setCell ⟨g', i, none⟩ u) g m j ts := by
  obtain ⟨ys, ho, hy⟩ := h
  refine ⟨ys, ?_, hy⟩
  obtain ⟨h1, h2⟩ := ho
  refine ⟨h1, ?_⟩
  rcases h2 with h2 | ⟨g2, cap, cur, hv, hB, hh, r⟩
  · exact .inl h2
  · refine .inr ⟨g2, cap, cur, hv, hB, ?_, r⟩
    simp only [Value.slice.injEq, Option.some.injEq, Addr.mk.injEq, and_true, true_and] at hv
    rw [Below.heap_setCell _ _ _ _ (by rw [← hv.1]; exact fun e => hg e.symm)]
    exact hh

theorem Filled.later {B : Nat} {w w' : World} {g m j : Nat} {ts : List ByteArray} (h : Filled B w g m j ts) (hb : Below w.heap.size w w') : Filled B w' g m j ts := by
  obtain ⟨ys, ho, hy⟩ := h
  exact ⟨ys, ownsRow_later ho hb, hy⟩

theorem filled_made {B : Nat} {w : World} {g m : Nat} {xs : List Value} (h : w.ownsRow B 9 1 (.slice (some ⟨g, 0, none⟩) m m) m xs) (ts : List ByteArray) : Filled B w g m 0 ts := ⟨xs, h, fun i hi => by omega⟩

theorem Filled.row {B : Nat} {w : World} {g m : Nat} {ts : List ByteArray} (h : Filled B w g m m ts) (hl : ts.length = m) : StrRow w (some ⟨g, 0, none⟩) m ts := by
  obtain ⟨ys, ho, hy⟩ := h
  refine ⟨hl, .inr ⟨_, rfl, fun i hi => ?_⟩⟩
  have e : (⟨g, 0, none⟩ : Addr).add i = ⟨g, i, none⟩ := by unfold Addr.add; split <;> simp_all
  rw [e, ho.cellAt i (by omega), hy i hi]

theorem getD_left (ts : List ByteArray) (t : ByteArray) {i : Nat} (h : i < ts.length) : (ts ++ [t]).getD i ByteArray.empty = ts.getD i ByteArray.empty := by
  rw [List.getD_eq_getElem?_getD, List.getD_eq_getElem?_getD, List.getElem?_append_left h]

theorem getD_last (ts : List ByteArray) (t : ByteArray) {n : Nat} (h : ts.length = n) : t = (ts ++ [t]).getD n ByteArray.empty := by
  subst h
  simp [List.getD_eq_getElem?_getD]

theorem strs_snoc (us : List ByteArray) (t : ByteArray) : strs (us ++ [t]) = strs us ++ [.string t] := by simp [strs]

theorem one_cell (t : ByteArray) : ∀ u ∈ [Value.string t], u.oneCell' = true := by
  intro u hu
  simp at hu
  subst hu
  rfl

theorem all_snoc {vs : List ByteArray} {s : ByteArray} (h : ∀ v ∈ vs, v.toList.isEmpty = false) (hs : s.toList.isEmpty = false) : ∀ v ∈ vs ++ [s], v.toList.isEmpty = false := by
  intro v hv
  rcases List.mem_append.1 hv with hv | hv
  · exact h v hv
  · simp at hv
    subst hv
    exact hs
end Go.Proofs.Qxb6612593a
