/-
  'noEOF', 'ending', 'errors.Unwrap', the two errors' texts.
-/
import Derived.Test.Qxb6612672aFmtFacts
namespace Go.Proofs.Qxb6612672aFmt
open Go.RowKit Go.Kit Go.Extern.Stop Go.Stop Go.Extern

/-- "unexpected EOF", "closed". -/
def ueof : ByteArray := ⟨#[117, 110, 101, 120, 112, 101, 99, 116, 101, 100, 32, 69, 79, 70]⟩

/-- An error of errors.New's make: its text's cell; its block bears no frozen range. -/
def NewErr (w : World) (a : Addr) (s : ByteArray) : Prop := w.cell? a = some (.string s) ∧ ∃ c t, w.heap[a.block]? = some (.cells c t (0, 0))

/-- The two variables: io.EOF at a0, io.ErrUnexpectedEOF at a1. -/
def Sent (w : World) (a0 a1 : Addr) : Prop :=
  w.cell? ⟨0, 0, none⟩ = some (.iface 41 (.pointer (some a0))) ∧ w.cell? ⟨1, 0, none⟩ = some (.iface 41 (.pointer (some a1))) ∧ (∃ c t, w.heap[a0.block]? = some (.cells c t (0, 0))) ∧ NewErr w a1 ueof ∧ a0 ≠ a1

theorem block_later {w w' : World} (hb : Below w.heap.size w w') {k : Nat} {o : Obj} (h : w.heap[k]? = some o) : w'.heap[k]? = some o :=
  (hb.block k (Array.getElem?_eq_some_iff.1 h).1).trans h

theorem NewErr.later {w w' : World} {a : Addr} {s : ByteArray} (h : NewErr w a s) (hb : Below w.heap.size w w') : NewErr w' a s := by
  obtain ⟨h1, c, t, h2⟩ := h
  exact ⟨cell_later hb h1, c, t, block_later hb h2⟩

theorem Sent.later {w w' : World} {a0 a1 : Addr} (h : Sent w a0 a1) (hb : Below w.heap.size w w') : Sent w' a0 a1 := by
  obtain ⟨h1, h2, ⟨c, t, h3⟩, h4, h5⟩ := h
  exact ⟨cell_later hb h1, cell_later hb h2, ⟨c, t, block_later hb h3⟩, h4.later hb, h5⟩

theorem eq_same (a : Addr) (w : World) : (binOp .eql 27 (.iface 41 (.pointer (some a))) (.iface 41 (.pointer (some a)))).run Tryf.prog w = .ok (.bool true) w := by
  obtain ⟨i, hi, hcmp⟩ := Option.map_eq_some_iff.1 Tryf.isComp
  obtain ⟨j, hj, hjs⟩ := Option.map_eq_some_iff.1 Tryf.isSize
  exact run_eql_iface_ptr_same (P := Tryf.prog) w a Tryf.underlying27 Tryf.underlying41 hi hcmp hj

theorem eq_other {a b : Addr} {ca cb : Array Value} {ta tb : TypeId} {w : World} (hne : a ≠ b) (ha : w.heap[a.block]? = some (.cells ca ta (0, 0))) (hb : w.heap[b.block]? = some (.cells cb tb (0, 0))) :
    (binOp .eql 27 (.iface 41 (.pointer (some a))) (.iface 41 (.pointer (some b)))).run Tryf.prog w = .ok (.bool false) w := by
  obtain ⟨i, hi, hcmp⟩ := Option.map_eq_some_iff.1 Tryf.isComp
  obtain ⟨j, hj, hjs⟩ := Option.map_eq_some_iff.1 Tryf.isSize
  exact run_eql_iface_ptr_other (P := Tryf.prog) w Tryf.underlying27 Tryf.underlying41 hi hcmp hj (by rw [hjs]; decide) hne ha hb

theorem noEOF_eof {a0 a1 : Addr} {w : World} (h : Sent w a0 a1) :
    Calls Tryf.prog 10 #[.iface 41 (.pointer (some a0))] w fun e w' => e = .returned (.iface 41 (.pointer (some a1))) ∧ w = w' := by
  have g0 := h.1
  have g1 := h.2.1
  have heq := eq_same a0 w
  clear h
  go_enter Tryf.func10, Tryf.ntmps10
  go_wp2
  go_ret
  exact ⟨rfl, rfl⟩

theorem noEOF_new {a0 a1 a : Addr} {s : ByteArray} {w : World} (h : Sent w a0 a1) (ha : NewErr w a s) (hne : a ≠ a0) :
    Calls Tryf.prog 10 #[.iface 41 (.pointer (some a))] w fun e w' => e = .returned (.iface 41 (.pointer (some a))) ∧ w = w' := by
  obtain ⟨g0, _, ⟨c0, t0, b0⟩, _⟩ := h
  obtain ⟨_, c, t, b⟩ := ha
  have heq := eq_other hne b b0
  clear b b0
  go_enter Tryf.func10, Tryf.ntmps10
  go_wp2
  go_ret
  exact ⟨rfl, rfl⟩

theorem new_any (s : ByteArray) (w : World) :
    Calls Tryf.prog 13 #[.string s] w fun e w' => ∃ p, e = .returned (.iface 41 (.pointer (some ⟨p, 0, none⟩))) ∧ w.heap.size ≤ p ∧ NewErr w' ⟨p, 0, none⟩ s ∧ Below w.heap.size w w' := by
  go_enter Tryf.func13, Tryf.ntmps13
  go_wp2
  go_ret
  exact ⟨_, rfl, Nat.le_refl _, ⟨by simp, _, _, heap_alloc_new w _⟩, (Below.refl _ w).alloc (Nat.le_refl _) _⟩

/-- "closed". -/
def closed : ByteArray := ⟨#[99, 108, 111, 115, 101, 100]⟩

theorem ending_eof {a0 a1 : Addr} {w : World} (h : Sent w a0 a1) :
    Calls Tryf.prog 9 #[.iface 41 (.pointer (some a0))] w fun e w' => ∃ p, e = .returned (.iface 41 (.pointer (some ⟨p, 0, none⟩))) ∧ w.heap.size ≤ p ∧ NewErr w' ⟨p, 0, none⟩ closed ∧ Below w.heap.size w w' := by
  have g0 := h.1
  have heq := eq_same a0 w
  clear h
  go_enter Tryf.func9, Tryf.ntmps9
  go_wp2_with fail
  refine (new_any closed w).mono ?_
  rintro e w1 ⟨p, rfl, hp, hn, hb⟩
  go_wp2
  go_ret
  exact ⟨p, rfl, hp, hn, hb⟩

/-- An error of fmt.Errorf's make that wraps the error at a: its text; its inner error. -/
def WrapErr (w : World) (p : Nat) (s : ByteArray) (a : Addr) : Prop := w.cell? ⟨p, 0, none⟩ = some (.string s) ∧ w.cell? ⟨p, 1, none⟩ = some (.iface 41 (.pointer (some a)))

theorem WrapErr.later {w w' : World} {p : Nat} {s : ByteArray} {a : Addr} (h : WrapErr w p s a) (hb : Below w.heap.size w w') : WrapErr w' p s a :=
  ⟨cell_later hb h.1, cell_later hb h.2⟩

theorem ending_wrap (F : Interp) {a0 a1 a : Addr} {s : ByteArray} {w : World} (hF : F.told.answers w.tape) (h : Sent w a0 a1) (ha : NewErr w a s) (hne : a ≠ a0) (hl : s.size ≤ 1048576) :
    Calls Tryf.prog 9 #[.iface 41 (.pointer (some a))] w fun e w' => ∃ p, e = .returned (.iface 45 (.pointer (some ⟨p, 0, none⟩))) ∧ WrapErr w' p (brk ++ s) a ∧ Below w.heap.size w w' := by
  obtain ⟨g0, _, ⟨c0, t0, b0⟩, _⟩ := h
  obtain ⟨cs, c, t, b⟩ := ha
  have heq := eq_other hne b b0
  clear b b0
  have hb0 : Below w.heap.size w (w.alloc (.cells #[.iface 41 (.pointer (some a))] 20)) := (Below.refl _ w).alloc (Nat.le_refl _) _
  have hE := errorf_told F a s (w.alloc (.cells #[.iface 41 (.pointer (some a))] 20)) ⟨w.heap.size, 0, none⟩ hF (by simp) (cell_later hb0 cs) hl
  have HE := (show Hid (Calls Tryf.prog 14 #[.string ⟨#[98, 114, 111, 107, 101, 58, 32, 37, 119]⟩, .slice (some ⟨w.heap.size, 0, none⟩) 1 1] (w.alloc (.cells #[.iface 41 (.pointer (some a))] 20)) fun e w' =>
      ∃ p, e = .returned (.iface 45 (.pointer (some ⟨p, 0, none⟩))) ∧ (w.alloc (.cells #[.iface 41 (.pointer (some a))] 20)).heap.size ≤ p ∧ w'.cell? ⟨p, 0, none⟩ = some (.string (brk ++ s)) ∧ w'.cell? ⟨p, 1, none⟩ = some (.iface 41 (.pointer (some a))) ∧ Below (w.alloc (.cells #[.iface 41 (.pointer (some a))] 20)).heap.size (w.alloc (.cells #[.iface 41 (.pointer (some a))] 20)) w') from hE)
  clear hE
  go_enter Tryf.func9, Tryf.ntmps9
  go_wp2_with fail
  refine HE.out.mono ?_
  rintro e w1 ⟨p, rfl, hp, h1, h2, hb⟩
  go_wp2
  go_ret
  exact ⟨p, rfl, ⟨h1, h2⟩, hb0.trans (hb.mono hb0.size)⟩

theorem errText {a : Addr} {s : ByteArray} {w : World} (h : w.cell? a = some (.string s)) :
    Calls Tryf.prog 33 #[.pointer (some a)] w fun e w' => e = .returned (.string s) ∧ w = w' := by
  go_enter Tryf.func33, Tryf.ntmps33
  go_wp2
  go_ret
  exact ⟨rfl, rfl⟩

theorem wrapText {p : Nat} {s : ByteArray} {w : World} (h : w.cell? ⟨p, 0, none⟩ = some (.string s)) :
    Calls Tryf.prog 34 #[.pointer (some ⟨p, 0, none⟩)] w fun e w' => e = .returned (.string s) ∧ w = w' := by
  go_enter Tryf.func34, Tryf.ntmps34
  go_wp2
  go_ret
  exact ⟨rfl, rfl⟩

theorem unwrap_wrap {p : Nat} {v : Value} {w : World} (h : w.cell? ⟨p, 1, none⟩ = some v) :
    Calls Tryf.prog 12 #[.iface 45 (.pointer (some ⟨p, 0, none⟩))] w fun e w' => e = .returned v ∧ w = w' := by
  have uW := Tryf.hasUnwrapW
  have mU := Tryf.methodUnwrap
  go_enter Tryf.func12, Tryf.ntmps12
  go_wp2
  go_ret
  exact ⟨rfl, rfl⟩

theorem unwrap_new (a : Addr) (w : World) :
    Calls Tryf.prog 12 #[.iface 41 (.pointer (some a))] w fun e w' => e = .returned .nilIface ∧ w = w' := by
  have uE := Tryf.noUnwrapE
  go_enter Tryf.func12, Tryf.ntmps12
  go_wp2
  go_ret
  exact ⟨rfl, rfl⟩
end Go.Proofs.Qxb6612672aFmt
