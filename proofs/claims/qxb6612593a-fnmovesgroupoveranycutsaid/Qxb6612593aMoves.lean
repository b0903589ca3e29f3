import Derived.Test.Qxb6612593aEv
namespace Go.Proofs.Qxb6612593a
open Go.RowKit

/-- The change that holds the flag and the events, all else zero. -/
abbrev chAgg (hold : Bool) (v : Value) : Value :=
  .agg #[.string ⟨#[]⟩, .int .u64 0, .int .i64 0, .pointer none, .bool hold, .int .i64 0, .string ⟨#[]⟩, .int .i64 0, .int .i64 0, .pointer none, .slice none 0 0, .int .u64 0, .int .i64 0, .pointer none, v]

set_option maxHeartbeats 1000000 in
theorem newChange_any (hold : Bool) (a : Option Addr) (n c : Nat) (w : World) :
    Calls Try.prog 9 #[.bool hold, .slice a n c] w fun e w' => e = .returned (chAgg hold (.slice a n c)) ∧ Below w.heap.size w w' := by
  go_enter Try.func9, Try.ntmps9
  go_wp2
  exact bodyPost_ret (v := chAgg hold (.slice a n c)) (by simp [results, Try.results9, go_sem]) rfl ⟨rfl, (Below.refl _ _).alloc (Nat.le_refl _) _⟩

/-- A slice of events: its cells hold evs. -/
def EvRow (w : World) (a : Option Addr) (n : Nat) (evs : List (ByteArray × ByteArray)) : Prop :=
  evs.length = n ∧ (n = 0 ∨ ∃ g, a = some ⟨g, 0, none⟩ ∧ ∀ i, i < n → ∃ t s, evs[i]? = some (t, s) ∧ w.cell? ⟨g, i * 2, none⟩ = some (.string t) ∧ w.cell? ⟨g, i * 2 + 1, none⟩ = some (.string s))

/-- Does one of the events name no step? -/
def anyOwn (evs : List (ByteArray × ByteArray)) : Bool := evs.any fun e => e.2.toList.isEmpty

theorem EvRow.later {w w' : World} {a : Option Addr} {n : Nat} {evs : List (ByteArray × ByteArray)} (h : EvRow w a n evs) (hb : Below w.heap.size w w') : EvRow w' a n evs := by
  refine ⟨h.1, ?_⟩
  rcases h.2 with h0 | ⟨g, hg, hc⟩
  · exact .inl h0
  · refine .inr ⟨g, hg, fun i hi => ?_⟩
    obtain ⟨t, s, he, c1, c2⟩ := hc i hi
    exact ⟨t, s, he, cell_later hb c1, cell_later hb c2⟩

theorem own_no {evs : List (ByteArray × ByteArray)} {k : Nat} {t s : ByteArray} (h : anyOwn (evs.take k) = false) (he : evs[k]? = some (t, s)) (hs : s.toList.isEmpty = false) : anyOwn (evs.take (k + 1)) = false := by
  unfold anyOwn at h ⊢
  rw [List.take_add_one, List.any_append, h, he]
  simp [hs]

theorem own_yes {evs : List (ByteArray × ByteArray)} {k : Nat} {t s : ByteArray} (he : evs[k]? = some (t, s)) (hs : s.toList.isEmpty = true) : decide ((0 : Int) ≤ (k : Int)) = anyOwn evs := by
  have h1 : anyOwn evs = true := by
    unfold anyOwn
    rw [List.any_eq_true]
    exact ⟨(t, s), List.mem_of_getElem? he, hs⟩
  rw [h1]
  simp

theorem own_none {evs : List (ByteArray × ByteArray)} {k : Nat} (hk : evs.length ≤ k) (h : anyOwn (evs.take k) = false) : decide ((0 : Int) ≤ -1) = anyOwn evs := by
  rw [List.take_of_length_le hk] at h
  rw [h]
  rfl

set_option maxHeartbeats 1000000 in
theorem index_any (a : Option Addr) (n c : Nat) (evs : List (ByteArray × ByteArray)) (w : World) (hn : n ≤ 4194304) (hev : EvRow w a n evs) :
    Calls Try.prog 17 #[.slice a n c, .func (.func 16) #[] #[]] w fun e w' => ∃ r : Int, e = .returned (.int .i64 r) ∧ Hid (decide (0 ≤ r) = anyOwn evs) ∧ Below w.heap.size w w' := by
  have HE : Hid (EvRow w a n evs) := hev
  clear hev
  have hn' : (n : Int) ≤ 4194304 := by omega
  go_enter Try.func17, Try.ntmps17
  go_wp2
  go_loopw [8] (fun i wr => ∃ k : Nat, k ≤ n ∧ i = .int .i64 k ∧ Hid (anyOwn (evs.take k) = false) ∧ Below w.heap.size w wr) (fun i _ => n - (intOf i).toNat)
  case atStart => exact ⟨0, by omega, rfl, rfl, Below.refl _ _⟩
  case round =>
    obtain ⟨k, hk, rfl, HN, hbel⟩ := hrel
    have hsz := hbel.size
    by_cases hlt : k < n
    · obtain ⟨hl, h0 | ⟨g, rfl, hc⟩⟩ := HE.out
      · omega
      obtain ⟨t, s, he, c1, c2⟩ := hc k hlt
      replace c1 := cell_later hbel c1
      replace c2 := cell_later hbel c2
      clear hc
      have HV : Hid (evs[k]? = some (t, s)) := he
      clear he
      cases hs : s.toList.isEmpty
      · go_wp2
        go_roundw
        case rel => exact ⟨k + 1, by omega, by go_num, own_no HN.out HV.out hs, hbel.alloc hsz _⟩
        case measure => simp [intOf]; omega
      · go_wp2
        go_ret
        exact ⟨k, rfl, own_yes HV.out hs, hbel.alloc hsz _⟩
    · go_wp2
      go_ret
      exact ⟨-1, rfl, own_none (by have := HE.out.1; omega) HN.out, hbel⟩

theorem contains_any (a : Option Addr) (n c : Nat) (evs : List (ByteArray × ByteArray)) (w : World) (hn : n ≤ 4194304) (hev : EvRow w a n evs) :
    Calls Try.prog 15 #[.slice a n c, .func (.func 16) #[] #[]] w fun e w' => e = .returned (.bool (anyOwn evs)) ∧ Below w.heap.size w w' := by
  go_enter Try.func15, Try.ntmps15
  go_wp2_with fail
  refine (index_any a n c evs w hn hev).mono ?_
  rintro e w1 ⟨r, rfl, HR, hb⟩
  go_wp2
  go_ret
  rw [← HR.out]
  exact ⟨rfl, hb⟩

set_option maxHeartbeats 1000000 in
theorem movesHeld_any (a : Option Addr) (n c : Nat) (evs : List (ByteArray × ByteArray)) (w : World) (hn : n ≤ 4194304) (hev : EvRow w a n evs) :
    Calls Try.prog 8 #[chAgg true (.slice a n c)] w fun e w' => e = .returned (.bool (anyOwn evs)) ∧ Below w.heap.size w w' := by
  go_enter Try.func8, Try.ntmps8
  go_wp2_with (go_at_call 13; go_in)
  refine (contains_any a n c evs _ hn (hev.later (((Below.refl _ _).alloc (Nat.le_refl _) _).alloc (by simp) _))).mono ?_
  rintro e w1 ⟨rfl, hb⟩
  go_wp2
  go_ret
  exact ⟨rfl, (((Below.refl w.heap.size w).alloc (Nat.le_refl _) _).alloc (by simp) _).trans (hb.mono (by simp; omega))⟩

set_option maxHeartbeats 1000000 in
theorem movesFree_any (a : Option Addr) (n c : Nat) (w : World) :
    Calls Try.prog 8 #[chAgg false (.slice a n c)] w fun e w' => e = .returned (.bool true) ∧ Below w.heap.size w w' := by
  go_enter Try.func8, Try.ntmps8
  go_wp2_with (go_at_call 13; go_in)
  go_ret
  exact ⟨rfl, (((Below.refl w.heap.size w).alloc (Nat.le_refl _) _).alloc (by simp) _)⟩

theorem moves_any (hold : Bool) (a : Option Addr) (n c : Nat) (evs : List (ByteArray × ByteArray)) (w : World) (hn : n ≤ 4194304) (hev : EvRow w a n evs) :
    Calls Try.prog 8 #[chAgg hold (.slice a n c)] w fun e w' => e = .returned (.bool (!hold || anyOwn evs)) ∧ Below w.heap.size w w' := by
  cases hold
  · exact movesFree_any a n c w
  · exact movesHeld_any a n c evs w hn hev
end Go.Proofs.Qxb6612593a
