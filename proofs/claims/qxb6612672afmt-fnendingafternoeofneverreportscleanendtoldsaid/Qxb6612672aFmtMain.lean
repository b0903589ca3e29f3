/-
  THE WALK OF 'FnEndingAfterNoEOFNeverReportsCleanEnd'.
-/
import Derived.Test.Qxb6612672aFmtZZ
namespace Go.Proofs.Qxb6612672aFmt
open Go.RowKit Go.Kit Go.Extern.Stop Go.Stop Go.Extern

set_option maxRecDepth 100000 in
set_option maxHeartbeats 1000000 in
theorem main_eof (F : Interp) {a0 a1 : Addr} (s : ByteArray) {w : World} (hF : F.told.answers w.tape) (h : Sent w a0 a1) (hl : s.size ≤ 1048576) :
    Calls Tryf.prog 3 #[.bool true, .string s] w fun e w' => e = .returned (.bool true) ∧ Below w.heap.size w w' := by
  have HS := (show Hid (Sent w a0 a1) from h)
  clear h
  have hl' : (s.size : Int) ≤ 1048576 := by omega
  have c1 : ((brk ++ ueof).toList == [98, 114, 111, 107, 101, 58, 32, 117, 110, 101, 120, 112, 101, 99, 116, 101, 100, 32, 69, 79, 70]) = true := by rw [ByteArray.toList_eq]; rfl
  have c2 : (closed.toList == [99, 108, 111, 115, 101, 100]) = true := by rw [ByteArray.toList_eq]; rfl
  have c3 : ((brk ++ ueof).toList == closed.toList) = false := by rw [ByteArray.toList_eq, ByteArray.toList_eq]; rfl
  go_enter Tryf.func3, Tryf.ntmps3
  go_wp2_with (go_at_call 4; go_in)
  refine (zz5_any F hF HS.out).mono ?_
  rintro e w1 ⟨rfl, b1⟩
  go_wp2_with fail
  refine (zz6_any (HS.out.later b1)).mono ?_
  rintro e w2 ⟨rfl, b2⟩
  go_wp2
  go_ret
  exact ⟨rfl, b1.trans (b2.mono b1.size)⟩

set_option maxRecDepth 100000 in
set_option maxHeartbeats 1000000 in
theorem main_new (F : Interp) {a0 a1 : Addr} (s : ByteArray) {w : World} (hF : F.told.answers w.tape) (h : Sent w a0 a1) (hl : s.size ≤ 1048576) :
    Calls Tryf.prog 3 #[.bool false, .string s] w fun e w' => e = .returned (.bool true) ∧ Below w.heap.size w w' := by
  have HS := (show Hid (Sent w a0 a1) from h)
  clear h
  have hl' : (s.size : Int) ≤ 1048576 := by omega
  have hl2 : s.size ≤ 9223372036854775800 := by omega
  have hb : brk = ⟨#[98, 114, 111, 107, 101, 58, 32]⟩ := rfl
  go_enter Tryf.func3, Tryf.ntmps3
  go_wp2_with (go_at_call 4; go_in)
  refine (zz7_any F s hF HS.out hl).mono ?_
  rintro e w1 ⟨rfl, b1⟩
  go_wp2_with fail
  refine (zz8_any F s (by rw [b1.tape]; exact hF) (HS.out.later b1) hl).mono ?_
  rintro e w2 ⟨rfl, b2⟩
  go_wp2
  go_ret
  exact ⟨rfl, b1.trans (b2.mono b1.size)⟩

theorem main_long (b : Bool) (s : ByteArray) (w : World) (hl : ¬ s.size ≤ 1048576) :
    Calls Tryf.prog 3 #[.bool b, .string s] w fun e w' => e = .returned (.bool true) ∧ Below w.heap.size w w' := by
  have hl' : (1048576 : Int) < s.size := by omega
  go_enter Tryf.func3, Tryf.ntmps3
  go_wp2
  go_ret
  exact ⟨rfl, Below.refl _ _⟩

theorem main_any (F : Interp) {a0 a1 : Addr} (b : Bool) (s : ByteArray) {w : World} (hF : F.told.answers w.tape) (h : Sent w a0 a1) :
    Calls Tryf.prog 3 #[.bool b, .string s] w fun e w' => e = .returned (.bool true) ∧ Below w.heap.size w w' := by
  by_cases hl : s.size ≤ 1048576
  · cases b
    · exact main_new F s hF h hl
    · exact main_eof F s hF h hl
  · exact main_long b s w hl
end Go.Proofs.Qxb6612672aFmt
