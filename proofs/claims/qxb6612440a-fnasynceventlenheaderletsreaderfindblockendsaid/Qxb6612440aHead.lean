/-
  THE WALK OF 'FnReadBlockLenReadsBackEncodedHeader'.
-/
import Derived.Test.Qxb6612440aPut
import Derived.Test.Qxb6612440aRead
namespace Go.Proofs.Qxb6612440a
open Go.RowKit

/-- A slice of bytes that came in: each element's cell holds some byte. -/
def ByteRow (w : World) (a : Option Addr) (len : Nat) : Prop := len = 0 ∨ ∃ x, a = some x ∧ ∀ i, i < len → ∃ z, w.cell? (x.add i) = some (.int .u8 z)

theorem bounds_of {k : IntKind} {n : Int} (h : (Lit.int k n).wf = true) : k.min ≤ n ∧ n ≤ k.max := by simpa [Lit.wf] using h

theorem ownsRow_shape {w : World} {B e n : Nat} {v : Value} {xs : List Value} (h : w.ownsRow B e 1 v n xs) (hn : 0 < n) : ∃ g cp, v = .slice (some ⟨g, 0, none⟩) n cp ∧ n ≤ cp := by
  rcases h.2 with ⟨_, h0⟩ | ⟨g, cp, cur, rfl, _, _, hcp, _⟩
  · omega
  · exact ⟨g, cp, rfl, hcp⟩

theorem byteB (v : Int) : 0 ≤ v % 256 ∧ v % 256 ≤ 255 := by omega

theorem sum_le (n : Int) (n0 : 0 ≤ n) (n1 : n < 4294967296) : n % 256 + n / 256 % 256 * 256 + n / 256 / 256 % 256 * 65536 + n / 256 / 256 / 256 % 256 * 16777216 = n := by omega

theorem hd_at {ts tid n typ np : Int} {hd : List Value} (h : hd = [] ++ leB 8 ts ++ leB 8 tid ++ leB 4 n ++ leB 2 typ ++ leB 4 np) (ys : List Value) :
    (hd ++ ys)[16]? = some (.int .u8 (n % 256)) ∧ (hd ++ ys)[17]? = some (.int .u8 (n / 256 % 256)) ∧ (hd ++ ys)[18]? = some (.int .u8 (n / 256 / 256 % 256)) ∧ (hd ++ ys)[19]? = some (.int .u8 (n / 256 / 256 / 256 % 256)) := by
  subst h
  simp [leB]

set_option maxHeartbeats 1000000 in
theorem head_short (ts tid n typ np : Int) (a : Option Addr) (len cap : Nat) (w : World)
    (t0 : 0 ≤ ts) (t1 : ts < 18446744073709551616) (d0 : 0 ≤ tid) (d1 : tid < 18446744073709551616) (n0 : 0 ≤ n) (n1 : n < 4294967296) (y0 : 0 ≤ typ) (y1 : typ < 65536) (p0 : 0 ≤ np) (p1 : np < 4294967296)
    (hl : len ≤ 1048576) (hrow : ByteRow w a len) :
    Calls Try.prog 3 #[.int .u64 ts, .int .u64 tid, .int .u32 n, .int .u16 typ, .int .u32 np, .slice a len cap] w fun e w' => e = .returned (.bool true) ∧ Below w.heap.size w w' := by
  have HR : Hid (ByteRow w a len) := hrow
  clear hrow
  have hl' : (len : Int) ≤ 1048576 := by omega
  obtain ⟨i0, hi, hz0, hz1, hz2⟩ := info_parts info5
  go_enter Try.func3, Try.ntmps3
  go_wp2_with (go_at_call 5; go_in)
  refine (putU64_any w.heap.size 0 ts t0 t1 _ [] _ (World.ownsRow_nil _ _ _ _) (Nat.le_refl _) (by omega)).mono ?_
  rintro e w1 ⟨s1, rfl, o1, b1⟩
  have z1 := b1.size
  go_wp2_with fail
  refine (putU64_any w.heap.size _ tid d0 d1 _ _ _ o1 z1 (by omega)).mono ?_
  rintro e w2 ⟨s2, rfl, o2, b2⟩
  replace b2 := b1.trans b2
  have z2 := b2.size
  clear b1 z1 o1
  go_wp2_with fail
  refine (putU32_any w.heap.size _ n n0 n1 _ _ _ o2 z2 (by omega)).mono ?_
  rintro e w3 ⟨s3, rfl, o3, b3⟩
  replace b3 := b2.trans b3
  have z3 := b3.size
  clear b2 z2 o2
  go_wp2_with fail
  refine (putU16_any w.heap.size _ typ y0 y1 _ _ _ o3 z3 (by omega)).mono ?_
  rintro e w4 ⟨s4, rfl, o4, b4⟩
  replace b4 := b3.trans b4
  have z4 := b4.size
  clear b3 z3 o3
  go_wp2_with fail
  refine (putU32_any w.heap.size _ np p0 p1 _ _ _ o4 z4 (by omega)).mono ?_
  rintro e w5 ⟨s5, rfl, o5, b5⟩
  replace b5 := b4.trans b5
  have z5 := b5.size
  clear b4 z4 o4
  obtain ⟨hd, hhd⟩ : ∃ hd, hd = [] ++ leB 8 ts ++ leB 8 tid ++ leB 4 n ++ leB 2 typ ++ leB 4 np := ⟨_, rfl⟩
  rw [← hhd] at o5
  have HH := (show Hid _ from hhd)
  clear hhd
  go_wp2
  go_loopw [13, 14] (fun o i wr => ∃ (k : Nat) (ys : List Value), k ≤ len ∧ i = .int .i64 k ∧ wr.ownsRow w.heap.size 5 1 o (26 + k) (hd ++ ys) ∧ Below w.heap.size w wr)
    (fun _ i _ => len - (intOf i).toNat)
  case atStart => exact ⟨0, [], by omega, rfl, by simpa using o5, b5⟩
  case round =>
    obtain ⟨k, ys, hk, rfl, ho, hbel⟩ := hrel
    have hsz := hbel.size
    clear o5 b5 z5
    by_cases hlt : k < len
    · rcases HR.out with h0 | ⟨x, rfl, hc⟩
      · omega
      obtain ⟨z, hz⟩ := hc k hlt
      have hz' := cell_later hbel hz
      clear hc HR
      go_wp2_with (at_builtin; refine wpList_append_own _ rfl _ _ 25 rfl w.heap.size 5 i0 (.int .u8 0) 1 1 Try.underlying25 hi hz0 hz1 hz2 rfl (by decide) _ _ _ rfl (ho.alloc _) ⟨wr.heap.size, 0, none⟩ 1 1 [_] rfl rfl (cell_one_new _ _ _) ?c2 ?c3 ?c4 ?c5 ?_)
      case c2 => intro u hu; simp at hu; subst hu; rfl
      case c3 => unfold maxLen; omega
      case c4 => omega
      case c5 => simp; omega
      intro v' w' hown' hgrow _
      have hb1 : Below w.heap.size w w' := (hbel.alloc (by omega) _).grown hgrow (by simp; omega) (fun g hg => (ho.lt g hg).1)
      clear hgrow ho
      go_wp2
      go_roundw
      case rel => exact ⟨k + 1, _, by omega, by go_num, hown', hb1⟩
      case measure => simp [intOf]; omega
    · obtain ⟨g, cp, hv, hcp⟩ := ownsRow_shape ho (by omega)
      rw [hv] at ho
      have hC := readBlockLen_any g (26 + k) cp _ _ _ _ (byteB n) (byteB (n / 256)) (byteB (n / 256 / 256)) (byteB (n / 256 / 256 / 256)) wr (by omega) hcp
        ((ho.cellAt 16 (by omega)).trans (hd_at HH.out ys).1) ((ho.cellAt 17 (by omega)).trans (hd_at HH.out ys).2.1) ((ho.cellAt 18 (by omega)).trans (hd_at HH.out ys).2.2.1) ((ho.cellAt 19 (by omega)).trans (hd_at HH.out ys).2.2.2)
      rw [sum_le n n0 n1] at hC
      have hkl : k = len := by omega
      rw [hv]
      subst hkl
      clear ho hv hcp
      go_wp2_with (go_at_call 9; refine hC.mono ?_; rintro e w' ⟨rfl, hb1⟩)
      go_ret
      exact ⟨rfl, hbel.trans (hb1.mono hsz)⟩

theorem head_long (ts tid n typ np : Int) (a : Option Addr) (len cap : Nat) (w : World) (hl : ¬ len ≤ 1048576) :
    Calls Try.prog 3 #[.int .u64 ts, .int .u64 tid, .int .u32 n, .int .u16 typ, .int .u32 np, .slice a len cap] w fun e w' => e = .returned (.bool true) ∧ Below w.heap.size w w' := by
  have hl' : (1048576 : Int) < len := by omega
  go_enter Try.func3, Try.ntmps3
  go_wp2
  go_ret
  exact ⟨rfl, Below.refl _ _⟩
end Go.Proofs.Qxb6612440a
