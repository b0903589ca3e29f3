/-
  'zzBytes_FnMovesGroupOverAnyCut': it answers, and leaves the world alone.
-/
import Derived.Test.Qxb6612593aEv
namespace Go.Proofs.Qxb6612593a
open Go.RowKit

/-- It answers some bool; the world stays. -/
def Ans (w : World) (e : Ending) (w' : World) : Prop := ∃ r, e = .returned (.bool r) ∧ w = w'

set_option maxHeartbeats 4000000 in
theorem bytes_any (hold : Bool) (a b : Option Addr) (la ca lb cb : Nat) (k : Int) (typ : ByteArray) (ts ss : List ByteArray) (w : World) (ha : StrRow w a la ts) (hb : StrRow w b lb ss) :
    Calls Try.prog 11 #[.bool hold, .slice a la ca, .slice b lb cb, .int .i64 k, .string typ] w (Ans w) := by
  have HA : Hid (StrRow w a la ts) := ha
  have HB : Hid (StrRow w b lb ss) := hb
  clear ha hb
  by_cases h1 : 1048576 < la
  · have h1' : (1048576 : Int) < la := by omega
    go_enter Try.func11, Try.ntmps11
    go_wp2
    go_ret
    exact ⟨_, rfl, rfl⟩
  have h1' : (la : Int) ≤ 1048576 := by omega
  go_enter Try.func11, Try.ntmps11
  go_wp2
  go_loop [11, 12] (fun z i => ∃ (n : Nat) (q : Int), n ≤ la ∧ i = .int .i64 n ∧ z = .int .i64 q ∧ 0 ≤ q ∧ q ≤ 1048576) (fun _ i => la - (intOf i).toNat)
  case atStart => exact ⟨0, _, by omega, rfl, rfl, by omega, by omega⟩
  case round =>
    obtain ⟨n, q, hn, rfl, rfl, hq0, hq1⟩ := hrel
    by_cases hlt : n < la
    · obtain ⟨_, h0 | ⟨x, rfl, hx⟩⟩ := HA.out
      · omega
      have cx := hx n hlt
      generalize ts.getD n ByteArray.empty = t at *
      clear hx
      by_cases g1 : 1048576 < t.size
      · have g1' : (1048576 : Int) < t.size := by omega
        go_wp2
        go_ret
        exact ⟨_, rfl, rfl⟩
      have g1' : (t.size : Int) ≤ 1048576 := by omega
      by_cases g2 : 1048576 < q + t.size
      · go_wp2
        go_ret
        exact ⟨_, rfl, rfl⟩
      · go_wp2
        go_round
        case rel => exact ⟨n + 1, _, by omega, by go_num, rfl, by omega, by omega⟩
        case measure => simp [intOf]; omega
    · by_cases h2 : 1048576 < lb
      · have h2' : (1048576 : Int) < lb := by omega
        go_wp2
        go_ret
        exact ⟨_, rfl, rfl⟩
      have h2' : (lb : Int) ≤ 1048576 := by omega
      by_cases g2 : 1048576 < q + lb
      · go_wp2
        go_ret
        exact ⟨_, rfl, rfl⟩
      go_wp2
      go_loop [11, 13] (fun z i => ∃ (n : Nat) (q : Int), n ≤ lb ∧ i = .int .i64 n ∧ z = .int .i64 q ∧ 0 ≤ q ∧ q ≤ 1048576) (fun _ i => lb - (intOf i).toNat)
      case atStart => exact ⟨0, _, by omega, rfl, rfl, by omega, by omega⟩
      case round =>
        obtain ⟨n, q, hn, rfl, rfl, hq0, hq1⟩ := hrel
        by_cases hlt : n < lb
        · obtain ⟨_, h0 | ⟨x, rfl, hx⟩⟩ := HB.out
          · omega
          have cx := hx n hlt
          generalize ss.getD n ByteArray.empty = t at *
          clear hx
          by_cases g1 : 1048576 < t.size
          · have g1' : (1048576 : Int) < t.size := by omega
            go_wp2
            go_ret
            exact ⟨_, rfl, rfl⟩
          have g1' : (t.size : Int) ≤ 1048576 := by omega
          by_cases g2 : 1048576 < q + t.size
          · go_wp2
            go_ret
            exact ⟨_, rfl, rfl⟩
          · go_wp2
            go_round
            case rel => exact ⟨n + 1, _, by omega, by go_num, rfl, by omega, by omega⟩
            case measure => simp [intOf]; omega
        · by_cases h3 : 1048576 < typ.size
          · have h3' : (1048576 : Int) < typ.size := by omega
            go_wp2
            go_ret
            exact ⟨_, rfl, rfl⟩
          have h3' : (typ.size : Int) ≤ 1048576 := by omega
          by_cases g3 : 1048576 < q + typ.size
          · go_wp2
            go_ret
            exact ⟨_, rfl, rfl⟩
          · go_wp2
            go_ret
            exact ⟨_, rfl, rfl⟩
end Go.Proofs.Qxb6612593a
