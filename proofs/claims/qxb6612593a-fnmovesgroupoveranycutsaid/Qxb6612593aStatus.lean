/-
  'Final', 'zzFinalRootB1', 'statusEvents', 'ZZstatusEvents'.
-/
import Derived.Test.Qxb6612593aMoves
import Derived.Laws.AppendOwnNone
namespace Go.Proofs.Qxb6612593a
open Go.RowKit

theorem final_any (to : ByteArray) (b2 b3 b4 b5 : Bool) (e2 : (to.toList == [99, 111, 109, 112, 101, 110, 115, 97, 116, 101, 100]) = b2) (e3 : (to.toList == [99, 111, 109, 112, 101, 110, 115, 97, 116, 105, 111, 110, 95, 102, 97, 105, 108, 101, 100]) = b3) (e4 : (to.toList == [99, 111, 109, 112, 108, 101, 116, 101, 100]) = b4) (e5 : (to.toList == [102, 97, 105, 108, 101, 100]) = b5) (w : World) :
    Calls Try.prog 14 #[.string to] w fun e w' => e = .returned (.bool (b4 || b2 || b3 || b5)) ∧ w = w' := by
  cases b4
  · cases b2
    · cases b3
      · cases b5
        all_goals
          go_enter Try.func14, Try.ntmps14
          go_wp2
          go_ret
          exact ⟨rfl, rfl⟩
      · go_enter Try.func14, Try.ntmps14
        go_wp2
        go_ret
        exact ⟨rfl, rfl⟩
    · go_enter Try.func14, Try.ntmps14
      go_wp2
      go_ret
      exact ⟨rfl, rfl⟩
  · go_enter Try.func14, Try.ntmps14
    go_wp2
    go_ret
    exact ⟨rfl, rfl⟩

theorem lawFinal_any (to : ByteArray) (b2 b3 b4 b5 : Bool) (e2 : (to.toList == [99, 111, 109, 112, 101, 110, 115, 97, 116, 101, 100]) = b2) (e3 : (to.toList == [99, 111, 109, 112, 101, 110, 115, 97, 116, 105, 111, 110, 95, 102, 97, 105, 108, 101, 100]) = b3) (e4 : (to.toList == [99, 111, 109, 112, 108, 101, 116, 101, 100]) = b4) (e5 : (to.toList == [102, 97, 105, 108, 101, 100]) = b5) (w : World) :
    Calls Try.prog 10 #[.string to] w fun e w' => e = .returned (.bool (b4 || b2 || b3 || b5)) ∧ w = w' := by
  cases b4
  · cases b2
    · cases b3
      · cases b5
        all_goals
          go_enter Try.func10, Try.ntmps10
          go_wp2
          go_ret
          exact ⟨rfl, rfl⟩
      · go_enter Try.func10, Try.ntmps10
        go_wp2
        go_ret
        exact ⟨rfl, rfl⟩
    · go_enter Try.func10, Try.ntmps10
      go_wp2
      go_ret
      exact ⟨rfl, rfl⟩
  · go_enter Try.func10, Try.ntmps10
    go_wp2
    go_ret
    exact ⟨rfl, rfl⟩

theorem own_cons (t : ByteArray) (evs : List (ByteArray × ByteArray)) : anyOwn ((t, ⟨#[]⟩) :: evs) = true := by
  simp [anyOwn, ByteArray.toList_eq]

theorem le_alloc {w : World} {B : Nat} (h : B ≤ w.heap.size) (o : Obj) : B ≤ (w.alloc o).heap.size := by simp; omega

theorem grown_below {B : Nat} {w w1 w2 : World} {o : Obj} {v : Value} {n : Nat} {xs : List Value} (hb : Below B w w1) (hB : B ≤ w1.heap.size) (ho : w1.ownsRow B 45 2 v n xs) (hg : (w1.alloc o).grownBy w2 v.ownBlock) : Below B w w2 :=
  (hb.alloc hB _).grown hg (le_alloc hB _) (fun g hg => (ho.lt g hg).1)

/-- What 'statusEvents' hands back: events of the saga's own, so many that there is one just where p or F. -/
def StOut (B : Nat) (w : World) (own : Bool) (e : Ending) (w' : World) : Prop :=
  ∃ v m evs, e = .returned v ∧ w'.ownsRow B 45 2 v m (evCells evs) ∧ anyOwn evs = own ∧ m ≤ 2 ∧ Below B w w'

set_option maxHeartbeats 4000000 in
theorem st_yesF (fr to : ByteArray) (b1 b2 b3 r1 r2 : Bool) (hto : to.size ≤ 1048576) (e1 : (to.toList == [99, 111, 109, 112, 101, 110, 115, 97, 116, 105, 110, 103]) = b1) (e2 : (to.toList == [99, 111, 109, 112, 101, 110, 115, 97, 116, 101, 100]) = b2) (e3 : (to.toList == [99, 111, 109, 112, 101, 110, 115, 97, 116, 105, 111, 110, 95, 102, 97, 105, 108, 101, 100]) = b3) (f1 : (fr.toList == [114, 117, 110, 110, 105, 110, 103]) = r1) (f2 : (fr.toList == [99, 111, 109, 112, 108, 101, 116, 101, 100]) = r2) (w : World) (hfin : Hid (∀ w, Calls Try.prog 14 #[.string to] w fun e w' => e = .returned (.bool false) ∧ w = w'))
    (hw : (b1 = true ∧ r1 = true) ∨ (b1 = true ∧ r1 = false ∧ r2 = true) ∨ (b1 = false ∧ b2 = true ∧ r1 = true) ∨ (b1 = false ∧ b2 = true ∧ r1 = false ∧ r2 = true) ∨ (b1 = false ∧ b2 = false ∧ b3 = true ∧ r1 = true) ∨ (b1 = false ∧ b2 = false ∧ b3 = true ∧ r1 = false ∧ r2 = true)) :
    Calls Try.prog 12 #[.string fr, .string to] w (StOut w.heap.size w true) := by
  obtain ⟨i0, hi, hz0, hz1, hz2⟩ := info_parts info45
  have o0 := World.ownsRow_nil w w.heap.size 45 2
  have hto' : (to.size : Int) ≤ 1048576 := by omega
  have hto2 : to.size ≤ 9223372036854775802 := by omega
  rcases hw with ⟨rfl, rfl⟩ | ⟨rfl, rfl, rfl⟩ | ⟨rfl, rfl, rfl⟩ | ⟨rfl, rfl, rfl, rfl⟩ | ⟨rfl, rfl, rfl, rfl⟩ | ⟨rfl, rfl, rfl, rfl, rfl⟩
  all_goals
    go_enter Try.func12, Try.ntmps12
    go_wp2_with (at_builtin; refine wpList_append_own _ rfl (.tmp 17) (.tmp 19) 23 rfl w.heap.size 45 i0 _ 2 32 Try.underlying23 hi hz0 hz1 hz2 rfl (by decide) _ _ _ rfl (o0.alloc _) ⟨w.heap.size, 0, none⟩ 1 1 [_, _] rfl rfl (cell_two_new _ _ _ _) (two_cells _ _) (by decide) (by decide) (le_alloc (Nat.le_refl _) _) ?_)
    intro v1 w1 o1 g1 _
    have k1 : Below w.heap.size w w1 := grown_below (Below.refl _ _) (Nat.le_refl _) o0 g1
    have z1 := k1.size
    clear g1
    go_wp2_with (go_at_call 14; refine (hfin.out _).mono ?_; rintro e w2 ⟨rfl, rfl⟩)
    go_ret
    exact ⟨_, 1, [(_, _)], rfl, o1, own_cons _ _, by omega, k1⟩

set_option maxHeartbeats 4000000 in
theorem st_noF (fr to : ByteArray) (b1 b2 b3 r1 r2 : Bool) (hto : to.size ≤ 1048576) (e1 : (to.toList == [99, 111, 109, 112, 101, 110, 115, 97, 116, 105, 110, 103]) = b1) (e2 : (to.toList == [99, 111, 109, 112, 101, 110, 115, 97, 116, 101, 100]) = b2) (e3 : (to.toList == [99, 111, 109, 112, 101, 110, 115, 97, 116, 105, 111, 110, 95, 102, 97, 105, 108, 101, 100]) = b3) (f1 : (fr.toList == [114, 117, 110, 110, 105, 110, 103]) = r1) (f2 : (fr.toList == [99, 111, 109, 112, 108, 101, 116, 101, 100]) = r2) (w : World) (hfin : Hid (∀ w, Calls Try.prog 14 #[.string to] w fun e w' => e = .returned (.bool false) ∧ w = w'))
    (hw : (b1 = true ∧ r1 = false ∧ r2 = false) ∨ (b1 = false ∧ b2 = true ∧ r1 = false ∧ r2 = false) ∨ (b1 = false ∧ b2 = false ∧ b3 = true ∧ r1 = false ∧ r2 = false) ∨ (b1 = false ∧ b2 = false ∧ b3 = false)) :
    Calls Try.prog 12 #[.string fr, .string to] w (StOut w.heap.size w false) := by
  obtain ⟨i0, hi, hz0, hz1, hz2⟩ := info_parts info45
  have o0 := World.ownsRow_nil w w.heap.size 45 2
  have hto' : (to.size : Int) ≤ 1048576 := by omega
  have hto2 : to.size ≤ 9223372036854775802 := by omega
  rcases hw with ⟨rfl, rfl, rfl⟩ | ⟨rfl, rfl, rfl, rfl⟩ | ⟨rfl, rfl, rfl, rfl, rfl⟩ | ⟨rfl, rfl, rfl⟩
  all_goals
    go_enter Try.func12, Try.ntmps12
    go_wp2_with (go_at_call 14; refine (hfin.out _).mono ?_; rintro e w2 ⟨rfl, rfl⟩)
    go_ret
    exact ⟨_, 0, [], rfl, o0, rfl, by omega, Below.refl _ _⟩

set_option maxHeartbeats 4000000 in
theorem st_yesT (fr to : ByteArray) (b1 b2 b3 r1 r2 : Bool) (hto : to.size ≤ 1048576) (e1 : (to.toList == [99, 111, 109, 112, 101, 110, 115, 97, 116, 105, 110, 103]) = b1) (e2 : (to.toList == [99, 111, 109, 112, 101, 110, 115, 97, 116, 101, 100]) = b2) (e3 : (to.toList == [99, 111, 109, 112, 101, 110, 115, 97, 116, 105, 111, 110, 95, 102, 97, 105, 108, 101, 100]) = b3) (f1 : (fr.toList == [114, 117, 110, 110, 105, 110, 103]) = r1) (f2 : (fr.toList == [99, 111, 109, 112, 108, 101, 116, 101, 100]) = r2) (w : World) (hfin : Hid (∀ w, Calls Try.prog 14 #[.string to] w fun e w' => e = .returned (.bool true) ∧ w = w'))
    (hw : (b1 = true ∧ r1 = true) ∨ (b1 = true ∧ r1 = false ∧ r2 = true) ∨ (b1 = false ∧ b2 = true ∧ r1 = true) ∨ (b1 = false ∧ b2 = true ∧ r1 = false ∧ r2 = true) ∨ (b1 = false ∧ b2 = false ∧ b3 = true ∧ r1 = true) ∨ (b1 = false ∧ b2 = false ∧ b3 = true ∧ r1 = false ∧ r2 = true)) :
    Calls Try.prog 12 #[.string fr, .string to] w (StOut w.heap.size w true) := by
  obtain ⟨i0, hi, hz0, hz1, hz2⟩ := info_parts info45
  have o0 := World.ownsRow_nil w w.heap.size 45 2
  have hto' : (to.size : Int) ≤ 1048576 := by omega
  have hto2 : to.size ≤ 9223372036854775802 := by omega
  rcases hw with ⟨rfl, rfl⟩ | ⟨rfl, rfl, rfl⟩ | ⟨rfl, rfl, rfl⟩ | ⟨rfl, rfl, rfl, rfl⟩ | ⟨rfl, rfl, rfl, rfl⟩ | ⟨rfl, rfl, rfl, rfl, rfl⟩
  all_goals
    go_enter Try.func12, Try.ntmps12
    go_wp2_with (at_builtin; refine wpList_append_own _ rfl (.tmp 17) (.tmp 19) 23 rfl w.heap.size 45 i0 _ 2 32 Try.underlying23 hi hz0 hz1 hz2 rfl (by decide) _ _ _ rfl (o0.alloc _) ⟨w.heap.size, 0, none⟩ 1 1 [_, _] rfl rfl (cell_two_new _ _ _ _) (two_cells _ _) (by decide) (by decide) (le_alloc (Nat.le_refl _) _) ?_)
    intro v1 w1 o1 g1 _
    have k1 : Below w.heap.size w w1 := grown_below (Below.refl _ _) (Nat.le_refl _) o0 g1
    have z1 := k1.size
    clear g1
    go_wp2_with (first | (go_at_call 14; refine (hfin.out _).mono ?_; rintro e w2 ⟨rfl, rfl⟩) | (at_builtin; refine wpList_append_own _ rfl (.tmp 23) (.tmp 27) 23 rfl w.heap.size 45 i0 _ 2 32 Try.underlying23 hi hz0 hz1 hz2 rfl (by decide) _ _ _ rfl (o1.alloc _) ⟨w1.heap.size, 0, none⟩ 1 1 [_, _] rfl rfl (cell_two_new _ _ _ _) (two_cells _ _) (by decide) (by decide) (le_alloc z1 _) ?_))
    intro v2 w2 o2 g2 _
    have k2 : Below w.heap.size w w2 := grown_below k1 z1 o1 g2
    clear g2
    go_wp2
    go_ret
    exact ⟨_, 2, [(_, _), (_, _)], rfl, o2, own_cons _ _, by omega, k2⟩

set_option maxHeartbeats 4000000 in
theorem st_noT (fr to : ByteArray) (b1 b2 b3 r1 r2 : Bool) (hto : to.size ≤ 1048576) (e1 : (to.toList == [99, 111, 109, 112, 101, 110, 115, 97, 116, 105, 110, 103]) = b1) (e2 : (to.toList == [99, 111, 109, 112, 101, 110, 115, 97, 116, 101, 100]) = b2) (e3 : (to.toList == [99, 111, 109, 112, 101, 110, 115, 97, 116, 105, 111, 110, 95, 102, 97, 105, 108, 101, 100]) = b3) (f1 : (fr.toList == [114, 117, 110, 110, 105, 110, 103]) = r1) (f2 : (fr.toList == [99, 111, 109, 112, 108, 101, 116, 101, 100]) = r2) (w : World) (hfin : Hid (∀ w, Calls Try.prog 14 #[.string to] w fun e w' => e = .returned (.bool true) ∧ w = w'))
    (hw : (b1 = true ∧ r1 = false ∧ r2 = false) ∨ (b1 = false ∧ b2 = true ∧ r1 = false ∧ r2 = false) ∨ (b1 = false ∧ b2 = false ∧ b3 = true ∧ r1 = false ∧ r2 = false) ∨ (b1 = false ∧ b2 = false ∧ b3 = false)) :
    Calls Try.prog 12 #[.string fr, .string to] w (StOut w.heap.size w true) := by
  obtain ⟨i0, hi, hz0, hz1, hz2⟩ := info_parts info45
  have o0 := World.ownsRow_nil w w.heap.size 45 2
  have hto' : (to.size : Int) ≤ 1048576 := by omega
  have hto2 : to.size ≤ 9223372036854775802 := by omega
  rcases hw with ⟨rfl, rfl, rfl⟩ | ⟨rfl, rfl, rfl, rfl⟩ | ⟨rfl, rfl, rfl, rfl, rfl⟩ | ⟨rfl, rfl, rfl⟩
  all_goals
    go_enter Try.func12, Try.ntmps12
    go_wp2_with (first | (go_at_call 14; refine (hfin.out _).mono ?_; rintro e w2 ⟨rfl, rfl⟩) | (at_builtin; refine wpList_append_own _ rfl (.tmp 23) (.tmp 27) 23 rfl w.heap.size 45 i0 _ 2 32 Try.underlying23 hi hz0 hz1 hz2 rfl (by decide) _ _ _ rfl (o0.alloc _) ⟨w.heap.size, 0, none⟩ 1 1 [_, _] rfl rfl (cell_two_new _ _ _ _) (two_cells _ _) (by decide) (by decide) (le_alloc (Nat.le_refl _) _) ?_))
    intro v2 w2 o2 g2 _
    have k2 : Below w.heap.size w w2 := grown_below (Below.refl _ _) (Nat.le_refl _) o0 g2
    clear g2
    go_wp2
    go_ret
    exact ⟨_, 1, [(_, _)], rfl, o2, own_cons _ _, by omega, k2⟩

theorem status_any (fr to : ByteArray) (b1 b2 b3 b4 b5 r1 r2 : Bool) (hto : to.size ≤ 1048576) (e1 : (to.toList == [99, 111, 109, 112, 101, 110, 115, 97, 116, 105, 110, 103]) = b1) (e2 : (to.toList == [99, 111, 109, 112, 101, 110, 115, 97, 116, 101, 100]) = b2) (e3 : (to.toList == [99, 111, 109, 112, 101, 110, 115, 97, 116, 105, 111, 110, 95, 102, 97, 105, 108, 101, 100]) = b3) (e4 : (to.toList == [99, 111, 109, 112, 108, 101, 116, 101, 100]) = b4) (e5 : (to.toList == [102, 97, 105, 108, 101, 100]) = b5) (f1 : (fr.toList == [114, 117, 110, 110, 105, 110, 103]) = r1) (f2 : (fr.toList == [99, 111, 109, 112, 108, 101, 116, 101, 100]) = r2) (w : World) :
    Calls Try.prog 12 #[.string fr, .string to] w (StOut w.heap.size w (((b1 || b2 || b3) && (r1 || r2)) || (b4 || b2 || b3 || b5))) := by
  have hfin : Hid (∀ w, Calls Try.prog 14 #[.string to] w fun e w' => e = .returned (.bool (b4 || b2 || b3 || b5)) ∧ w = w') := fun w => final_any to b2 b3 b4 b5 e2 e3 e4 e5 w
  generalize (b4 || b2 || b3 || b5) = F at hfin ⊢
  by_cases hp : ((b1 || b2 || b3) && (r1 || r2)) = true
  · have hw : (b1 = true ∧ r1 = true) ∨ (b1 = true ∧ r1 = false ∧ r2 = true) ∨ (b1 = false ∧ b2 = true ∧ r1 = true) ∨ (b1 = false ∧ b2 = true ∧ r1 = false ∧ r2 = true) ∨ (b1 = false ∧ b2 = false ∧ b3 = true ∧ r1 = true) ∨ (b1 = false ∧ b2 = false ∧ b3 = true ∧ r1 = false ∧ r2 = true) := by revert hp; cases b1 <;> cases b2 <;> cases b3 <;> cases r1 <;> cases r2 <;> simp
    rw [hp, Bool.true_or]
    cases F
    · exact st_yesF fr to b1 b2 b3 r1 r2 hto e1 e2 e3 f1 f2 w hfin hw
    · exact st_yesT fr to b1 b2 b3 r1 r2 hto e1 e2 e3 f1 f2 w hfin hw
  · have hp' : ((b1 || b2 || b3) && (r1 || r2)) = false := by simpa using hp
    have hw : (b1 = true ∧ r1 = false ∧ r2 = false) ∨ (b1 = false ∧ b2 = true ∧ r1 = false ∧ r2 = false) ∨ (b1 = false ∧ b2 = false ∧ b3 = true ∧ r1 = false ∧ r2 = false) ∨ (b1 = false ∧ b2 = false ∧ b3 = false) := by revert hp'; cases b1 <;> cases b2 <;> cases b3 <;> cases r1 <;> cases r2 <;> simp
    rw [hp', Bool.false_or]
    cases F
    · exact st_noF fr to b1 b2 b3 r1 r2 hto e1 e2 e3 f1 f2 w hfin hw
    · exact st_noT fr to b1 b2 b3 r1 r2 hto e1 e2 e3 f1 f2 w hfin hw

theorem zzstatus_any (fr to : ByteArray) (b1 b2 b3 b4 b5 r1 r2 : Bool) (hto : to.size ≤ 1048576) (e1 : (to.toList == [99, 111, 109, 112, 101, 110, 115, 97, 116, 105, 110, 103]) = b1) (e2 : (to.toList == [99, 111, 109, 112, 101, 110, 115, 97, 116, 101, 100]) = b2) (e3 : (to.toList == [99, 111, 109, 112, 101, 110, 115, 97, 116, 105, 111, 110, 95, 102, 97, 105, 108, 101, 100]) = b3) (e4 : (to.toList == [99, 111, 109, 112, 108, 101, 116, 101, 100]) = b4) (e5 : (to.toList == [102, 97, 105, 108, 101, 100]) = b5) (f1 : (fr.toList == [114, 117, 110, 110, 105, 110, 103]) = r1) (f2 : (fr.toList == [99, 111, 109, 112, 108, 101, 116, 101, 100]) = r2) (w : World) :
    Calls Try.prog 7 #[.string fr, .string to] w (StOut w.heap.size w (((b1 || b2 || b3) && (r1 || r2)) || (b4 || b2 || b3 || b5))) := by
  have hC := status_any fr to b1 b2 b3 b4 b5 r1 r2 hto e1 e2 e3 e4 e5 f1 f2 w
  clear e1 e2 e3 e4 e5 f1 f2
  go_enter Try.func7, Try.ntmps7
  go_wp2_with fail
  refine hC.mono ?_
  rintro e w1 ⟨v, m, evs, rfl, ho, ha, hm, hb⟩
  have HA : Hid (anyOwn evs = _) := ha
  clear ha
  go_wp2
  go_ret
  exact ⟨v, m, evs, rfl, ho, HA.out, hm, hb⟩
end Go.Proofs.Qxb6612593a
