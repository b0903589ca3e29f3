/-
  The four 'ZZ' functions: what 'ending' of an error holds, read off by Error(), errors.Unwrap and errors.Is.
-/
import Derived.Test.Qxb6612672aFmtEnding
import Derived.BigQuiet
import Derived.Deep.QuietTactic
import Derived.Deep.RegionWith
namespace Go.Proofs.Qxb6612672aFmt
open Go.RowKit Go.Kit Go.Extern.Stop Go.Stop Go.Extern

theorem ne_fresh {w : World} {a0 a1 : Addr} (h : Sent w a0 a1) {p : Nat} (hp : w.heap.size ≤ p) : (⟨p, 0, none⟩ : Addr) ≠ a0 := by
  obtain ⟨_, _, ⟨c, t, hb⟩, _⟩ := h
  intro e
  have := (Array.getElem?_eq_some_iff.1 hb).1
  rw [← e] at this
  exact absurd hp (Nat.not_le.2 this)

set_option maxHeartbeats 1000000 in
theorem zz7_any (F : Interp) {a0 a1 : Addr} (s : ByteArray) {w : World} (hF : F.told.answers w.tape) (h : Sent w a0 a1) (hl : s.size ≤ 1048576) :
    Calls Tryf.prog 7 #[.string s] w fun e w' => e = .returned (.tuple #[.string (brk ++ s), .bool false, .bool true, .bool false]) ∧ Below w.heap.size w w' := by
  have HS := (show Hid (Sent w a0 a1) from h)
  clear h
  go_enter Tryf.func7, Tryf.ntmps7
  go_wp2_with fail
  refine (new_any s w).mono ?_
  rintro e w1 ⟨p, rfl, hp, hn, b1⟩
  have HN := (show Hid (NewErr w1 ⟨p, 0, none⟩ s) from hn)
  have HS1 := (show Hid (Sent w1 a0 a1) from HS.out.later b1)
  have HNE := (show Hid ((⟨p, 0, none⟩ : Addr) ≠ a0) from ne_fresh HS.out hp)
  clear hn HS
  go_wp2_with fail
  refine (noEOF_new HS1.out HN.out HNE.out).mono ?_
  rintro e x ⟨rfl, rfl⟩
  go_wp2_with fail
  refine (ending_wrap F (by rw [b1.tape]; exact hF) HS1.out HN.out HNE.out hl).mono ?_
  rintro e w2 ⟨q, rfl, hq, b2⟩
  have HS2 := (show Hid (Sent w2 a0 a1) from HS1.out.later b2)
  have HN2 := (show Hid (NewErr w2 ⟨p, 0, none⟩ s) from HN.out.later b2)
  have HQ := (show Hid (WrapErr w2 q (brk ++ s) ⟨p, 0, none⟩) from hq)
  clear HS1 HN hq
  have KE := (show Hid (∀ n, Calls Tryf.prog 34 #[.pointer (some ⟨q, 0, none⟩)] (w2.drewN n) fun e w' => e = .returned (.string (brk ++ s)) ∧ w' = w2.drewN n) from
    fun n => (wrapText (w := w2.drewN n) (by exact HQ.out.1)).mono fun _ _ ⟨h1, h2⟩ => ⟨h1, h2.symm⟩)
  have KU := (show Hid (∀ n, Calls Tryf.prog 12 #[.iface 45 (.pointer (some ⟨q, 0, none⟩))] (w2.drewN n) fun e w' => e = .returned (.iface 41 (.pointer (some ⟨p, 0, none⟩))) ∧ w' = w2.drewN n) from
    fun n => (unwrap_wrap (w := w2.drewN n) (by exact HQ.out.2)).mono fun _ _ ⟨h1, h2⟩ => ⟨h1, h2.symm⟩)
  have hI : ∀ n, Calls Tryf.prog 11 #[.iface 45 (.pointer (some ⟨q, 0, none⟩)), .iface 41 (.pointer (some a0))] (w2.drewN n) fun e w' => e = .returned (.bool false) ∧ w' = w2.drewN n := by
    intro n
    obtain ⟨_, _, ⟨c0, t0, k0⟩, _⟩ := HS2.out
    obtain ⟨_, c, t, k⟩ := HN2.out
    exact is_wrap_other q 0 a0 ⟨p, 0, none⟩ c c0 t t0 (w2.drewN n) (by exact HQ.out.2) HNE.out (by exact k) (by exact k0)
  have KI := (show Hid (∀ n, Calls Tryf.prog 11 #[.iface 45 (.pointer (some ⟨q, 0, none⟩)), .iface 41 (.pointer (some a0))] (w2.drewN n) fun e w' => e = .returned (.bool false) ∧ w' = w2.drewN n) from hI)
  clear hI
  have mW := methodErrW
  have heq := eq_same ⟨p, 0, none⟩
  have g0 := HS2.out.1
  go_wp2
  go_quiet ((first | (go_at_call 34; exact Calls.quiet_of_same (KE.out _)) | (go_at_call 12; exact Calls.quiet_of_same (KU.out _)) | (go_at_call 11; exact Calls.quiet_of_same (KI.out _))))
  go_wp2
  exact bodyPost_ret (v := .tuple #[.string (brk ++ s), .bool false, .bool true, .bool false]) (by simp [results, Tryf.results7, go_sem]) rfl ⟨rfl, below_drewN (b1.trans (b2.mono b1.size)) _⟩

set_option maxHeartbeats 1000000 in
theorem zz8_any (F : Interp) {a0 a1 : Addr} (s : ByteArray) {w : World} (hF : F.told.answers w.tape) (h : Sent w a0 a1) (hl : s.size ≤ 1048576) :
    Calls Tryf.prog 8 #[.string s] w fun e w' => e = .returned (.tuple #[.string (brk ++ s), .bool false, .bool true, .bool false]) ∧ Below w.heap.size w w' := by
  have HS := (show Hid (Sent w a0 a1) from h)
  clear h
  go_enter Tryf.func8, Tryf.ntmps8
  go_wp2_with fail
  refine (new_any s w).mono ?_
  rintro e w1 ⟨p, rfl, hp, hn, b1⟩
  have HN := (show Hid (NewErr w1 ⟨p, 0, none⟩ s) from hn)
  have HS1 := (show Hid (Sent w1 a0 a1) from HS.out.later b1)
  have HNE := (show Hid ((⟨p, 0, none⟩ : Addr) ≠ a0) from ne_fresh HS.out hp)
  clear hn HS
  go_wp2_with fail
  refine (ending_wrap F (by rw [b1.tape]; exact hF) HS1.out HN.out HNE.out hl).mono ?_
  rintro e w2 ⟨q, rfl, hq, b2⟩
  have HS2 := (show Hid (Sent w2 a0 a1) from HS1.out.later b2)
  have HN2 := (show Hid (NewErr w2 ⟨p, 0, none⟩ s) from HN.out.later b2)
  have HQ := (show Hid (WrapErr w2 q (brk ++ s) ⟨p, 0, none⟩) from hq)
  clear HS1 HN hq
  have KE := (show Hid (∀ n, Calls Tryf.prog 34 #[.pointer (some ⟨q, 0, none⟩)] (w2.drewN n) fun e w' => e = .returned (.string (brk ++ s)) ∧ w' = w2.drewN n) from
    fun n => (wrapText (w := w2.drewN n) (by exact HQ.out.1)).mono fun _ _ ⟨h1, h2⟩ => ⟨h1, h2.symm⟩)
  have KU := (show Hid (∀ n, Calls Tryf.prog 12 #[.iface 45 (.pointer (some ⟨q, 0, none⟩))] (w2.drewN n) fun e w' => e = .returned (.iface 41 (.pointer (some ⟨p, 0, none⟩))) ∧ w' = w2.drewN n) from
    fun n => (unwrap_wrap (w := w2.drewN n) (by exact HQ.out.2)).mono fun _ _ ⟨h1, h2⟩ => ⟨h1, h2.symm⟩)
  have hI : ∀ n, Calls Tryf.prog 11 #[.iface 45 (.pointer (some ⟨q, 0, none⟩)), .iface 41 (.pointer (some a0))] (w2.drewN n) fun e w' => e = .returned (.bool false) ∧ w' = w2.drewN n := by
    intro n
    obtain ⟨_, _, ⟨c0, t0, k0⟩, _⟩ := HS2.out
    obtain ⟨_, c, t, k⟩ := HN2.out
    exact is_wrap_other q 0 a0 ⟨p, 0, none⟩ c c0 t t0 (w2.drewN n) (by exact HQ.out.2) HNE.out (by exact k) (by exact k0)
  have KI := (show Hid (∀ n, Calls Tryf.prog 11 #[.iface 45 (.pointer (some ⟨q, 0, none⟩)), .iface 41 (.pointer (some a0))] (w2.drewN n) fun e w' => e = .returned (.bool false) ∧ w' = w2.drewN n) from hI)
  clear hI
  have mW := methodErrW
  have heq := eq_same ⟨p, 0, none⟩
  have g0 := HS2.out.1
  go_wp2
  go_quiet ((first | (go_at_call 34; exact Calls.quiet_of_same (KE.out _)) | (go_at_call 12; exact Calls.quiet_of_same (KU.out _)) | (go_at_call 11; exact Calls.quiet_of_same (KI.out _))))
  go_wp2
  exact bodyPost_ret (v := .tuple #[.string (brk ++ s), .bool false, .bool true, .bool false]) (by simp [results, Tryf.results8, go_sem]) rfl ⟨rfl, below_drewN (b1.trans (b2.mono b1.size)) _⟩

set_option maxHeartbeats 1000000 in
theorem zz5_any (F : Interp) {a0 a1 : Addr} {w : World} (hF : F.told.answers w.tape) (h : Sent w a0 a1) :
    Calls Tryf.prog 5 #[] w fun e w' => e = .returned (.tuple #[.string (brk ++ ueof), .bool false, .bool true, .bool false]) ∧ Below w.heap.size w w' := by
  have HS := (show Hid (Sent w a0 a1) from h)
  have g0 := h.1
  clear h
  go_enter Tryf.func5, Tryf.ntmps5
  go_wp2_with fail
  refine (noEOF_eof HS.out).mono ?_
  rintro e x ⟨rfl, rfl⟩
  go_wp2_with fail
  refine (ending_wrap F hF HS.out HS.out.2.2.2.1 (Ne.symm HS.out.2.2.2.2) (by decide)).mono ?_
  rintro e w2 ⟨q, rfl, hq, b2⟩
  have HS2 := (show Hid (Sent w2 a0 a1) from HS.out.later b2)
  have HQ := (show Hid (WrapErr w2 q (brk ++ ueof) a1) from hq)
  clear hq g0
  have KE := (show Hid (∀ n, Calls Tryf.prog 34 #[.pointer (some ⟨q, 0, none⟩)] (w2.drewN n) fun e w' => e = .returned (.string (brk ++ ueof)) ∧ w' = w2.drewN n) from
    fun n => (wrapText (w := w2.drewN n) (by exact HQ.out.1)).mono fun _ _ ⟨h1, h2⟩ => ⟨h1, h2.symm⟩)
  have KS := (show Hid (∀ n, Calls Tryf.prog 11 #[.iface 45 (.pointer (some ⟨q, 0, none⟩)), .iface 41 (.pointer (some a1))] (w2.drewN n) fun e w' => e = .returned (.bool true) ∧ w' = w2.drewN n) from
    fun n => is_wrap_same q 0 a1 (w2.drewN n) (by exact HQ.out.2))
  have hI : ∀ n, Calls Tryf.prog 11 #[.iface 45 (.pointer (some ⟨q, 0, none⟩)), .iface 41 (.pointer (some a0))] (w2.drewN n) fun e w' => e = .returned (.bool false) ∧ w' = w2.drewN n := by
    intro n
    obtain ⟨_, _, ⟨c0, t0, k0⟩, ⟨_, c, t, k⟩, hne⟩ := HS2.out
    exact is_wrap_other q 0 a0 a1 c c0 t t0 (w2.drewN n) (by exact HQ.out.2) (Ne.symm hne) (by exact k) (by exact k0)
  have KI := (show Hid (∀ n, Calls Tryf.prog 11 #[.iface 45 (.pointer (some ⟨q, 0, none⟩)), .iface 41 (.pointer (some a0))] (w2.drewN n) fun e w' => e = .returned (.bool false) ∧ w' = w2.drewN n) from hI)
  clear hI
  have mW := methodErrW
  have g0 := HS2.out.1
  have g1 := HS2.out.2.1
  go_wp2
  go_quiet ((first | (go_at_call 34; exact Calls.quiet_of_same (KE.out _)) | (go_at_call_of 11 (a1); exact Calls.quiet_of_same (KS.out _)) | (go_at_call 11; exact Calls.quiet_of_same (KI.out _))))
  go_wp2
  exact bodyPost_ret (v := .tuple #[.string (brk ++ ueof), .bool false, .bool true, .bool false]) (by simp [results, Tryf.results5, go_sem]) rfl ⟨rfl, below_drewN b2 _⟩

set_option maxHeartbeats 1000000 in
theorem zz6_any {a0 a1 : Addr} {w : World} (h : Sent w a0 a1) :
    Calls Tryf.prog 6 #[] w fun e w' => e = .returned (.tuple #[.string closed, .bool false, .bool false, .bool false]) ∧ Below w.heap.size w w' := by
  have HS := (show Hid (Sent w a0 a1) from h)
  have g0 := h.1
  clear h
  go_enter Tryf.func6, Tryf.ntmps6
  go_wp2_with fail
  refine (ending_eof HS.out).mono ?_
  rintro e w2 ⟨p, rfl, hp, hn, b2⟩
  have HS2 := (show Hid (Sent w2 a0 a1) from HS.out.later b2)
  have HN := (show Hid (NewErr w2 ⟨p, 0, none⟩ closed) from hn)
  have HNE := (show Hid ((⟨p, 0, none⟩ : Addr) ≠ a0) from ne_fresh HS.out hp)
  clear hn g0 HS
  have KE := (show Hid (∀ n, Calls Tryf.prog 33 #[.pointer (some ⟨p, 0, none⟩)] (w2.drewN n) fun e w' => e = .returned (.string closed) ∧ w' = w2.drewN n) from
    fun n => (errText (w := w2.drewN n) (by exact HN.out.1)).mono fun _ _ ⟨h1, h2⟩ => ⟨h1, h2.symm⟩)
  have KU := (show Hid (∀ n, Calls Tryf.prog 12 #[.iface 41 (.pointer (some ⟨p, 0, none⟩))] (w2.drewN n) fun e w' => e = .returned .nilIface ∧ w' = w2.drewN n) from
    fun n => (unwrap_new ⟨p, 0, none⟩ (w2.drewN n)).mono fun _ _ ⟨h1, h2⟩ => ⟨h1, h2.symm⟩)
  have hI : ∀ n, Calls Tryf.prog 11 #[.iface 41 (.pointer (some ⟨p, 0, none⟩)), .iface 41 (.pointer (some a0))] (w2.drewN n) fun e w' => e = .returned (.bool false) ∧ w' = w2.drewN n := by
    intro n
    obtain ⟨_, _, ⟨c0, t0, k0⟩, _⟩ := HS2.out
    obtain ⟨_, c, t, k⟩ := HN.out
    exact is_other ⟨p, 0, none⟩ a0 c c0 t t0 (w2.drewN n) HNE.out (by exact k) (by exact k0)
  have KI := (show Hid (∀ n, Calls Tryf.prog 11 #[.iface 41 (.pointer (some ⟨p, 0, none⟩)), .iface 41 (.pointer (some a0))] (w2.drewN n) fun e w' => e = .returned (.bool false) ∧ w' = w2.drewN n) from hI)
  clear hI
  have mE := methodErrE
  have g0 := HS2.out.1
  go_wp2
  go_quiet ((first | (go_at_call 33; exact Calls.quiet_of_same (KE.out _)) | (go_at_call 12; exact Calls.quiet_of_same (KU.out _)) | (go_at_call 11; exact Calls.quiet_of_same (KI.out _))))
  go_wp2
  exact bodyPost_ret (v := .tuple #[.string closed, .bool false, .bool false, .bool false]) (by simp [results, Tryf.results6, go_sem]) rfl ⟨rfl, below_drewN b2 _⟩

end Go.Proofs.Qxb6612672aFmt
