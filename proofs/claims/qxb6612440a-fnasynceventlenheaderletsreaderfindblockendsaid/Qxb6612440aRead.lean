/-
  'binary.LittleEndian.Uint32' and 'pluginapi.ReadBlockLen': the number that the four bytes at offset 16 spell, the least first.
-/
import Derived.Test.Qxb6612440aRows
import Derived.WalkKit
import Derived.ProofKit
import Derived.Below
import Derived.WalkSpells
import Derived.BigQuiet
import Derived.Deep.QuietTactic
import Derived.Lib.EndianBits
import Derived.Deep.RegionWith
import Derived.WalkSmall
namespace Go.Proofs.Qxb6612440a
open Go.RowKit

set_option maxHeartbeats 4000000 in
set_option maxRecDepth 100000 in
theorem uint32_any (g o n c : Nat) (b0 b1 b2 b3 : Int) (h0 : 0 ≤ b0 ∧ b0 ≤ 255) (h1 : 0 ≤ b1 ∧ b1 ≤ 255) (h2 : 0 ≤ b2 ∧ b2 ≤ 255) (h3 : 0 ≤ b3 ∧ b3 ≤ 255) (w : World) (hn : 4 ≤ n)
    (c0 : w.cell? ⟨g, o, none⟩ = some (.int .u8 b0)) (c1 : w.cell? ⟨g, o + 1, none⟩ = some (.int .u8 b1)) (c2 : w.cell? ⟨g, o + 2, none⟩ = some (.int .u8 b2)) (c3 : w.cell? ⟨g, o + 3, none⟩ = some (.int .u8 b3)) :
    Calls Try.prog 13 #[.agg #[], .slice (some ⟨g, o, none⟩) n c] w fun e w' => e = .returned (.int .u32 (b0 + b1 * 256 + b2 * 65536 + b3 * 16777216)) ∧ Below w.heap.size w w' := by
  have d0 := cell_later ((Below.refl _ w).alloc (Nat.le_refl _) (.cells #[] 36)) c0
  have d1 := cell_later ((Below.refl _ w).alloc (Nat.le_refl _) (.cells #[] 36)) c1
  have d2 := cell_later ((Below.refl _ w).alloc (Nat.le_refl _) (.cells #[] 36)) c2
  have d3 := cell_later ((Below.refl _ w).alloc (Nat.le_refl _) (.cells #[] 36)) c3
  obtain ⟨p0, q0⟩ := h0
  obtain ⟨p1, q1⟩ := h1
  obtain ⟨p2, q2⟩ := h2
  obtain ⟨p3, q3⟩ := h3
  have n0 : 0 < n := by omega
  have n1 : (1 : Int) < n := by omega
  have n2 : (2 : Int) < n := by omega
  have n3 : (3 : Int) < n := by omega
  go_enter Try.func13, Try.ntmps13
  go_wp2
  go_quiet (fail)
  go_wp2
  go_ret
  refine ⟨?_, below_drewN ((Below.refl _ w).alloc (Nat.le_refl _) _) _⟩
  simp (disch := omega) only [u32_or8, u32_or16, u32_or24]
  rfl

set_option maxHeartbeats 4000000 in
set_option maxRecDepth 100000 in
theorem readBlockLen_any (g n c : Nat) (b0 b1 b2 b3 : Int) (h0 : 0 ≤ b0 ∧ b0 ≤ 255) (h1 : 0 ≤ b1 ∧ b1 ≤ 255) (h2 : 0 ≤ b2 ∧ b2 ≤ 255) (h3 : 0 ≤ b3 ∧ b3 ≤ 255) (w : World) (hn : 20 ≤ n) (hc : n ≤ c)
    (c0 : w.cell? ⟨g, 16, none⟩ = some (.int .u8 b0)) (c1 : w.cell? ⟨g, 17, none⟩ = some (.int .u8 b1)) (c2 : w.cell? ⟨g, 18, none⟩ = some (.int .u8 b2)) (c3 : w.cell? ⟨g, 19, none⟩ = some (.int .u8 b3)) :
    Calls Try.prog 9 #[.slice (some ⟨g, 0, none⟩) n c] w fun e w' => e = .returned (.int .u32 (b0 + b1 * 256 + b2 * 65536 + b3 * 16777216)) ∧ Below w.heap.size w w' := by
  have hn' : (16 : Int) ≤ n := by omega
  have hc' : (n : Int) ≤ c := by omega
  have hne : ¬ c = 16 := by omega
  go_enter Try.func9, Try.ntmps9
  go_wp2
  go_region_with (
      go_at_call 13
      refine (uint32_any g 16 (n - 16) (c - 16) b0 b1 b2 b3 h0 h1 h2 h3 _ (by omega) (by exact c0) (by exact c1) (by exact c2) (by exact c3)).mono ?_
      rintro e w2 ⟨rfl, hb2⟩)
  go_wp2
  go_ret
  exact ⟨rfl, ((Below.refl w.heap.size w).drew).trans hb2⟩
end Go.Proofs.Qxb6612440a
