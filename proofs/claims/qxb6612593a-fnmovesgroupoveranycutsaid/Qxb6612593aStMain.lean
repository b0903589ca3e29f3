/-
  THE WALK OF 'FnMovesGroupOverStatusEvents'.
-/
import Derived.Test.Qxb6612593aStatus
namespace Go.Proofs.Qxb6612593a
open Go.RowKit

theorem ownsRow_later {w w' : World} {B e size n : Nat} {v : Value} {xs : List Value} (h : w.ownsRow B e size v n xs) (hb : Below w.heap.size w w') : w'.ownsRow B e size v n xs := by
  refine ⟨h.1, ?_⟩
  rcases h.2 with h0 | ⟨g, cap, cur, hv, hB, hg, r⟩
  · exact .inl h0
  · exact .inr ⟨g, cap, cur, hv, hB, by rw [hb.block g (Array.getElem?_eq_some_iff.1 hg).1]; exact hg, r⟩

theorem ownsRow_down {w : World} {B B' e size n : Nat} {v : Value} {xs : List Value} (h : w.ownsRow B' e size v n xs) (hB : B ≤ B') : w.ownsRow B e size v n xs := by
  refine ⟨h.1, ?_⟩
  rcases h.2 with h0 | ⟨g, cap, cur, hv, hB', r⟩
  · exact .inl h0
  · exact .inr ⟨g, cap, cur, hv, Nat.le_trans hB hB', r⟩

theorem ownsRow_form {w : World} {B e size n : Nat} {v : Value} {xs : List Value} (h : w.ownsRow B e size v n xs) : v = .slice none 0 0 ∧ n = 0 ∨ ∃ g cp, v = .slice (some ⟨g, 0, none⟩) n cp := by
  rcases h.2 with h0 | ⟨g, cap, cur, hv, _⟩
  · exact .inl h0
  · exact .inr ⟨g, cap, hv⟩

theorem evCells_at : ∀ (evs : List (ByteArray × ByteArray)) (i : Nat), i < evs.length → ∃ t s, evs[i]? = some (t, s) ∧ (evCells evs)[i * 2]? = some (.string t) ∧ (evCells evs)[i * 2 + 1]? = some (.string s)
  | [], i, h => by simp at h
  | (t, s) :: r, 0, _ => ⟨t, s, by simp [evCells]⟩
  | e :: r, i + 1, h => by
    obtain ⟨t, s, h1, h2, h3⟩ := evCells_at r i (by simpa using h)
    refine ⟨t, s, by simpa using h1, ?_, ?_⟩
    · rw [show (i + 1) * 2 = i * 2 + 1 + 1 from by omega]; simpa [evCells] using h2
    · rw [show (i + 1) * 2 + 1 = i * 2 + 1 + 1 + 1 from by omega]; simpa [evCells] using h3

theorem evRow_of {w : World} {B n cp : Nat} {a : Option Addr} {evs : List (ByteArray × ByteArray)} (h : w.ownsRow B 45 2 (.slice a n cp) n (evCells evs)) : EvRow w a n evs := by
  have hl : evs.length = n := by have := h.1; rw [evCells_length] at this; omega
  refine ⟨hl, ?_⟩
  rcases ownsRow_form h with ⟨_, h0⟩ | ⟨g, cp', hv⟩
  · exact .inl h0
  · simp only [Value.slice.injEq] at hv
    obtain ⟨rfl, _, rfl⟩ := hv
    refine .inr ⟨g, rfl, fun i hi => ?_⟩
    obtain ⟨t, s, h1, h2, h3⟩ := evCells_at evs i (by omega)
    exact ⟨t, s, h1, (h.cellAt (i * 2) (by omega)).trans h2, (h.cellAt (i * 2 + 1) (by omega)).trans h3⟩

theorem oneCell_ev : ∀ (evs : List (ByteArray × ByteArray)), ∀ u ∈ evCells evs, u.oneCell' = true
  | [] => by simp [evCells]
  | e :: r => by
    intro u hu
    simp only [evCells, List.mem_cons] at hu
    rcases hu with rfl | rfl | hu
    · rfl
    · rfl
    · exact oneCell_ev r u hu

theorem strRow_one (w : World) (s : ByteArray) (b : Nat) (h : w.cell? ⟨b, 0, none⟩ = some (.string s)) : StrRow w (some ⟨b, 0, none⟩) 1 [s] := by
  refine ⟨rfl, .inr ⟨_, rfl, fun i hi => ?_⟩⟩
  obtain rfl : i = 0 := by omega
  simpa [Addr.add] using h

/-- 'append(v, v2...)', both rows of the call's own, v2 nil or not. -/
theorem wpList_append_rows {P : Program} {w : World} {ops : Array Oper} {rest : List Oper} {o : Oper} {a : Act} {Q : Exit → Act → World → Prop} (hgd : o.guard = none) (s x : Operand) (t : TypeId)
    (ho : o.op = .call { callee := .builtin .append, args := #[s, x], argTypes := #[t, t] })
    (base base2 : Nat) (e : TypeId) (i : TypeInfo) (z : Value) (size bytes : Nat) (ht : P.underlying t = some (.slice e)) (hi : P.info? e = some i) (hz : i.zero = some z)
    (hsize : i.size = size) (hby : i.bytes = bytes) (hzs : z.cells.size = size) (hsz : 0 < size)
    (v : Value) (n : Nat) (xs : List Value) (hs : a.eval s = v) (hown : w.ownsRow base e size v n xs)
    (v2 : Value) (m : Nat) (news : List Value) (hx : a.eval x = v2) (hown2 : w.ownsRow base2 e size v2 m news) (h1 : ∀ u ∈ news, u.oneCell' = true)
    (h63 : n + m ≤ maxLen) (hbytes : (n + m) * bytes ≤ 140737488355328) (hbase : base ≤ w.heap.size)
    (h : ∀ v' w', w'.ownsRow base e size v' (n + m) (xs ++ news) → w.grownBy w' v.ownBlock → wpList P ops Q rest (a.put o.dst v') w') : wpList P ops Q (o :: rest) a w := by
  rcases hown2.2 with ⟨hv, hm⟩ | ⟨g, cap, cur, hv, _⟩
  · have hn : news = [] := by have := hown2.1; rw [hm] at this; simpa using this
    refine wpList_append_own_none hgd s x t ho base e i size ht hi v n xs hs hown (hx.trans hv) (h v w ?_ (World.grownBy.refl _ _))
    rw [hm, hn, List.append_nil]
    exact hown
  · refine wpList_append_own w hgd s x t ho base e i z size bytes ht hi hz hsize hby hzs hsz v n xs hs hown ⟨g, 0, none⟩ m cap news (hx.trans hv) hown2.1 (hown2.cells (by rw [hv]; rfl)) h1 h63 hbytes hbase ?_
    intro v' w' k1 k2 _
    exact h v' w' k1 k2

theorem own_head (t s : ByteArray) (evs : List (ByteArray × ByteArray)) (E : Bool) {own : Bool} (hE : s.toList.isEmpty = E) (h : anyOwn evs = own) : anyOwn ([(t, s)] ++ evs) = (E || own) := by
  rw [← hE, ← h]
  simp [anyOwn]

theorem bl (b1 b2 b3 b4 b5 R : Bool) : (((b1 || b2 || b3) && R) || (b4 || b2 || b3 || b5)) = ((b4 || b2 || b3 || b5) || (b1 && R)) := by
  cases b1 <;> cases b2 <;> cases b3 <;> cases b4 <;> cases b5 <;> cases R <;> rfl

theorem two_events (t s : ByteArray) (w : World) :
    Calls Try.prog 6 #[.slice (some ⟨w.heap.size, 0, none⟩) 1 1, .slice (some ⟨w.heap.size + 1, 0, none⟩) 1 1] ((w.alloc (.cells #[.string t] 9)).alloc (.cells #[.string s] 9))
      fun e w' => ∃ g, e = .returned (.slice (some ⟨g, 0, none⟩) 1 1) ∧ w'.ownsRow w.heap.size 45 2 (.slice (some ⟨g, 0, none⟩) 1 1) 1 (evCells [(t, s)]) ∧ Below w.heap.size w w' := by
  have b0 : Below w.heap.size w ((w.alloc (.cells #[.string t] 9)).alloc (.cells #[.string s] 9)) := ((Below.refl _ w).alloc (Nat.le_refl _) _).alloc (by simp) _
  have e1 : ((w.alloc (.cells #[.string t] 9)).alloc (.cells #[.string s] 9)).cell? ⟨w.heap.size, 0, none⟩ = some (.string t) := by simp
  have e2 : ((w.alloc (.cells #[.string t] 9)).alloc (.cells #[.string s] 9)).cell? ⟨w.heap.size + 1, 0, none⟩ = some (.string s) := by simp
  refine (events_any _ _ 1 1 1 [t] [s] _ (by omega) (strRow_one _ t _ e1) (strRow_one _ s _ e2)).mono ?_
  rintro e w' ⟨rfl, ho, hb⟩
  exact ⟨_, rfl, ownsRow_down ho b0.size, b0.trans (hb.mono b0.size)⟩

set_option maxHeartbeats 4000000 in
theorem st_main (hold : Bool) (fr to t s : ByteArray) (b1 b2 b3 b4 b5 r1 r2 E : Bool) (k1 : fr.size ≤ 65536) (k2 : to.size ≤ 65536) (k3 : t.size ≤ 65536) (k4 : s.size ≤ 65536)
    (e1 : (to.toList == [99, 111, 109, 112, 101, 110, 115, 97, 116, 105, 110, 103]) = b1) (e2 : (to.toList == [99, 111, 109, 112, 101, 110, 115, 97, 116, 101, 100]) = b2) (e3 : (to.toList == [99, 111, 109, 112, 101, 110, 115, 97, 116, 105, 111, 110, 95, 102, 97, 105, 108, 101, 100]) = b3) (e4 : (to.toList == [99, 111, 109, 112, 108, 101, 116, 101, 100]) = b4) (e5 : (to.toList == [102, 97, 105, 108, 101, 100]) = b5) (f1 : (fr.toList == [114, 117, 110, 110, 105, 110, 103]) = r1) (f2 : (fr.toList == [99, 111, 109, 112, 108, 101, 116, 101, 100]) = r2) (g0 : s.toList.isEmpty = E) (w : World) :
    Calls Try.prog 3 #[.bool hold, .string fr, .string to, .string t, .string s] w fun e w' => e = .returned (.bool true) ∧ Below w.heap.size w w' := by
  have hst := fun w => zzstatus_any fr to b1 b2 b3 b4 b5 r1 r2 (by omega) e1 e2 e3 e4 e5 f1 f2 w
  have HST := (show Hid _ from hst)
  have hfin := fun w => lawFinal_any to b2 b3 b4 b5 e2 e3 e4 e5 w
  have HF := (show Hid _ from hfin)
  clear hst hfin e2 e3 e4 e5
  obtain ⟨i0, hi, hz0, hz1, hz2⟩ := info_parts info45
  have j1 : (fr.size : Int) ≤ 65536 := by omega
  have j2 : (to.size : Int) ≤ 65536 := by omega
  have j3 : (t.size : Int) ≤ 65536 := by omega
  have j4 : (s.size : Int) ≤ 65536 := by omega
  have hE := two_events t s w
  go_enter Try.func3, Try.ntmps3
  go_wp2_with (go_at_call 5; go_in)
  refine hE.mono ?_
  rintro e w1 ⟨g1, rfl, o1, c1⟩
  have z1 := c1.size
  clear hE
  go_wp2_with fail
  refine (HST.out _).mono ?_
  rintro e w2 ⟨v2, m, evs, rfl, o2, ha, hm, c2⟩
  have HA := (show Hid _ from ha)
  clear ha HST
  replace o1 := ownsRow_later o1 c2
  replace c2 := c1.trans (c2.mono z1)
  have z2 := c2.size
  clear c1 z1
  have hlen : (evCells evs).length = m * 2 := o2.1
  have hml : evs.length = m := by rw [evCells_length] at hlen; omega
  go_wp2_with (at_builtin; refine wpList_append_rows rfl _ _ 23 rfl w.heap.size _ 45 i0 _ 2 32 Try.underlying23 hi hz0 hz1 hz2 rfl (by decide) _ _ _ rfl o1 v2 m (evCells evs) rfl o2 (oneCell_ev evs) ?c3 ?c4 ?c5 ?_)
  case c3 => unfold maxLen; omega
  case c4 => omega
  case c5 => exact z2
  intro v3 w3 o3 gr3
  have c3 : Below w.heap.size w w3 := c2.grown gr3 z2 (fun g hg => (o1.lt g hg).1)
  have z3 := c3.size
  clear gr3 o1 o2 c2 z2 hlen
  rw [← evCells_append] at o3
  obtain ⟨g3, cp3, rfl⟩ : ∃ g cp, v3 = .slice (some ⟨g, 0, none⟩) (1 + m) cp := by
    rcases ownsRow_form o3 with ⟨_, h⟩ | h
    · omega
    · exact h
  go_wp2_with fail
  refine (newChange_any hold _ _ _ _).mono ?_
  rintro e w4 ⟨rfl, c4⟩
  replace o3 := ownsRow_later o3 c4
  replace c4 := c3.trans (c4.mono z3)
  have z4 := c4.size
  clear c3 z3
  go_wp2_with fail
  refine (moves_any hold _ _ _ _ _ (by omega) (evRow_of o3)).mono ?_
  rintro e w5 ⟨rfl, c5⟩
  replace c5 := c4.trans (c5.mono z4)
  clear c4 z4 o3
  rw [own_head t s evs E g0 HA.out]
  go_wp2_with fail
  refine (HF.out _).mono ?_
  rintro e w6 ⟨rfl, rfl⟩
  clear HF HA
  rw [bl b1 b2 b3 b4 b5 (r1 || r2)]
  generalize (b4 || b2 || b3 || b5) = F
  have hcase : F = true ∨ (F = false ∧ b1 = false) ∨ (F = false ∧ b1 = true ∧ r1 = true) ∨ (F = false ∧ b1 = true ∧ r1 = false ∧ r2 = true) ∨ (F = false ∧ b1 = true ∧ r1 = false ∧ r2 = false) := by
    cases F <;> cases b1 <;> cases r1 <;> cases r2 <;> simp
  have hc2 : hold = false ∨ (hold = true ∧ E = true) ∨ (hold = true ∧ E = false) := by cases hold <;> cases E <;> simp
  rcases hcase with rfl | ⟨rfl, rfl⟩ | ⟨rfl, rfl, rfl⟩ | ⟨rfl, rfl, rfl, rfl⟩ | ⟨rfl, rfl, rfl, rfl⟩
  all_goals
    rcases hc2 with rfl | ⟨rfl, rfl⟩ | ⟨rfl, rfl⟩
    all_goals
      go_wp2
      go_ret
      exact ⟨rfl, c5⟩

set_option maxHeartbeats 4000000 in
theorem st_big (hold : Bool) (fr to t s : ByteArray) (h : 65536 < fr.size ∨ (fr.size ≤ 65536 ∧ 65536 < to.size) ∨ (fr.size ≤ 65536 ∧ to.size ≤ 65536 ∧ 65536 < t.size) ∨ (fr.size ≤ 65536 ∧ to.size ≤ 65536 ∧ t.size ≤ 65536 ∧ 65536 < s.size)) (w : World) :
    Calls Try.prog 3 #[.bool hold, .string fr, .string to, .string t, .string s] w fun e w' => e = .returned (.bool true) ∧ Below w.heap.size w w' := by
  rcases h with h | ⟨h, h2⟩ | ⟨h, h2, h3⟩ | ⟨h, h2, h3, h4⟩
  · have j1 : (65536 : Int) < fr.size := by omega
    go_enter Try.func3, Try.ntmps3
    go_wp2
    all_goals
      go_ret
      exact ⟨rfl, Below.refl _ _⟩
  · have j1 : (fr.size : Int) ≤ 65536 := by omega
    have j2 : (65536 : Int) < to.size := by omega
    go_enter Try.func3, Try.ntmps3
    go_wp2
    all_goals
      go_ret
      exact ⟨rfl, Below.refl _ _⟩
  · have j1 : (fr.size : Int) ≤ 65536 := by omega
    have j2 : (to.size : Int) ≤ 65536 := by omega
    have j3 : (65536 : Int) < t.size := by omega
    go_enter Try.func3, Try.ntmps3
    go_wp2
    all_goals
      go_ret
      exact ⟨rfl, Below.refl _ _⟩
  · have j1 : (fr.size : Int) ≤ 65536 := by omega
    have j2 : (to.size : Int) ≤ 65536 := by omega
    have j3 : (t.size : Int) ≤ 65536 := by omega
    have j4 : (65536 : Int) < s.size := by omega
    go_enter Try.func3, Try.ntmps3
    go_wp2
    all_goals
      go_ret
      exact ⟨rfl, Below.refl _ _⟩
end Go.Proofs.Qxb6612593a
