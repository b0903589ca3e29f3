/-
  'copy(zzc, typs)': onto a row of the call's own, of the same length; slices of strings that the call has copied.
-/
import Derived.Test.Qxb6612593aMoves
import Derived.Laws.CopyOwn
namespace Go.Proofs.Qxb6612593a
open Go.RowKit

theorem wpList_copy_full {P : Program} {w : World} {ops : Array Oper} {rest : List Oper} {o : Oper} {a : Act} {Q : Exit → Act → World → Prop} (hgd : o.guard = none) (d s : Operand) (dT sT : TypeId)
    (ho : o.op = .call { callee := .builtin .copy, args := #[d, s], argTypes := #[dT, sT] }) (elem : TypeId) (hu : P.underlying dT = some (.slice elem)) (hsz : (P.info? elem).map (·.size) = some 1)
    (base e g n dCap : Nat) (xs : List Value) (sp : Option Addr) (sCap : Nat) (hd : a.eval d = .slice (some ⟨g, 0, none⟩) n dCap) (hs : a.eval s = .slice sp n sCap)
    (hown : w.ownsRow base e 1 (.slice (some ⟨g, 0, none⟩) n dCap) n xs) (cs : List Value) (hn : cs.length = n)
    (hsrc : n = 0 ∨ ∃ ad, sp = some ad ∧ ∀ j v, cs[j]? = some v → w.cell? (ad.add j) = some v) (h1 : ∀ v ∈ cs, v.oneCell' = true)
    (h : ∀ w', w'.ownsRow base e 1 (.slice (some ⟨g, 0, none⟩) n dCap) n cs → w.grownBy w' (some g) → wpList P ops Q rest (a.put o.dst (goInt n)) w') :
    wpList P ops Q (o :: rest) a w := by
  by_cases h0 : n = 0
  · subst h0
    obtain rfl : cs = [] := List.eq_nil_of_length_eq_zero hn
    refine wpList_copy_nothing hgd d s dT sT ho elem hu hsz _ sp 0 dCap 0 sCap hd hs rfl ?_
    refine h w ?_ (World.grownBy.refl _ _)
    have hx : xs = [] := by simpa using hown.1
    rw [hx] at hown
    exact hown
  · obtain ⟨ad, rfl, hsrc'⟩ := hsrc.resolve_left h0
    rcases hown.2 with ⟨hv, _⟩ | ⟨g', cap', cur, hv, hB, hg, hnc, hcm, hcs, htk⟩
    · simp at hv
    · simp only [Value.slice.injEq, Option.some.injEq, Addr.mk.injEq, and_true, true_and] at hv
      obtain ⟨rfl, rfl⟩ := hv
      refine wpList_copy_own hgd d s dT sT ho elem hu hsz g 0 n dCap ad n sCap hd hs cur e hg cs (by rw [hn]; exact (Nat.min_self n).symm) hsrc' (by omega) h1 ?_
      rw [hn]
      refine h _ ⟨by omega, .inr ⟨g, dCap, _, rfl, hB, setRow_heap w g cur _ e _ hg, hnc, hcm, ?_, ?_⟩⟩ ⟨rfl, rfl, rfl, by simp [World.setRow], fun k _ hk => setRow_other w g k _ (fun e => hk (by simp [e]))⟩
      · simp; omega
      · simp [← hn]

/-- A slice of strings as the law has copied it (its capacity is its length): nil, or a row of the call's own. -/
def CopyRow (w : World) (a : Option Addr) (n : Nat) (ts : List ByteArray) : Prop :=
  StrRow w a n ts ∧ ((a = none ∧ n = 0) ∨ ∃ g, a = some ⟨g, 0, none⟩)

theorem StrRow.later {w w' : World} {a : Option Addr} {n : Nat} {ts : List ByteArray} (h : StrRow w a n ts) (hb : Below w.heap.size w w') : StrRow w' a n ts := by
  refine ⟨h.1, ?_⟩
  rcases h.2 with h0 | ⟨x, hx, hc⟩
  · exact .inl h0
  · exact .inr ⟨x, hx, fun i hi => cell_later hb (hc i hi)⟩

theorem CopyRow.later {w w' : World} {a : Option Addr} {n : Nat} {ts : List ByteArray} (h : CopyRow w a n ts) (hb : Below w.heap.size w w') : CopyRow w' a n ts :=
  ⟨h.1.later hb, h.2⟩

theorem CopyRow.some {w : World} {a : Option Addr} {n : Nat} {ts : List ByteArray} (h : CopyRow w a n ts) (hn : 0 < n) : ∃ g, a = .some ⟨g, 0, none⟩ := by
  rcases h.2 with ⟨_, h0⟩ | hg
  · omega
  · exact hg

def strs (ts : List ByteArray) : List Value := ts.map Value.string

theorem strs_oneCell (ts : List ByteArray) : ∀ v ∈ strs ts, v.oneCell' = true := by
  intro v hv
  simp only [strs, List.mem_map] at hv
  obtain ⟨t, _, rfl⟩ := hv
  rfl

theorem strRow_src {w : World} {a : Option Addr} {n : Nat} {ts : List ByteArray} (h : StrRow w a n ts) : n = 0 ∨ ∃ ad, a = some ad ∧ ∀ j v, (strs ts)[j]? = some v → w.cell? (ad.add j) = some v := by
  rcases h.2 with h0 | ⟨x, hx, hc⟩
  · exact .inl h0
  · refine .inr ⟨x, hx, fun j v hv => ?_⟩
    simp only [strs, List.getElem?_map, Option.map_eq_some_iff] at hv
    obtain ⟨t, ht, rfl⟩ := hv
    have hj : j < n := by have := (List.getElem?_eq_some_iff.1 ht).1; have := h.1; omega
    rw [hc j hj, List.getD_eq_getElem?_getD, ht]
    rfl

theorem strRow_of_owns {w : World} {B g n cp : Nat} {ts : List ByteArray} (h : w.ownsRow B 9 1 (.slice (some ⟨g, 0, none⟩) n cp) n (strs ts)) : StrRow w (some ⟨g, 0, none⟩) n ts := by
  have hl : ts.length = n := by have := h.1; simp [strs] at this; omega
  refine ⟨hl, .inr ⟨_, rfl, fun i hi => ?_⟩⟩
  have e : (⟨g, 0, none⟩ : Addr).add i = ⟨g, i, none⟩ := by unfold Addr.add; split <;> simp_all
  rw [e, h.cellAt i (by omega)]
  simp [strs, List.getD_eq_getElem?_getD, hl, hi]

theorem info9 : (Try.prog.info? 9).map (fun i => (i.zero, i.size, i.bytes)) = some (some (.string ⟨#[]⟩), 1, 16) := by kernel_rfl
theorem size9 : (Try.prog.info? 9).map (·.size) = some 1 := by kernel_rfl
end Go.Proofs.Qxb6612593a
