/-
  errors.Is BY ITS CONTRACTS, at this program's numbers: the lines of the guide's worked example Sentry (its text written by the kit's is-facts.mjs), turned to this program.
-/
import Derived.Test.Qxb6612672aFmtChecked
import Derived.WalkKit
import Derived.LaidEql
import Derived.Stop.Asserts
import Derived.RowKitTokens
namespace Go.Proofs.Qxb6612672aFmt
open Go.RowKit Go.Extern.Stop Go.Stop Go.Extern

/-! ### CLOSED FACTS: what 'reflectlite.TypeOf(target).Comparable()' gives at such a target -/
theorem Tryf.isTypeOf (v : Value) (w : World) : (Extern.ReflectliteType.typeOf #[.iface 41 v]).run Tryf.prog w = .ok (.iface 47 (.agg #[.pointer (some ⟨2, 41, none⟩)])) w := by kernel_rfl
/-- What the model's entry for '(internal/reflectlite.rtype).Comparable' does. -/
def cmpEntry : Array Value → Sem Value := Extern.ReflectliteType.method fun t => do Extern.Rtype.noPackHeld "Comparable" t; pure (.bool (← typeInfo t).comparable)
theorem Tryf.isComparable (w : World) : (cmpEntry #[.agg #[.pointer (some ⟨2, 41, none⟩)]]).run Tryf.prog w = .ok (.bool true) w := by kernel_rfl
theorem Tryf.isMethodComparable (v : Value) (w : World) : (Go.method 193 47 v "Comparable").run Tryf.prog w = .ok (39, v) w := by kernel_rfl
theorem Tryf.isComp : (Tryf.prog.info? 41).map (·.comparable) = some true := by kernel_rfl
theorem Tryf.isSize : (Tryf.prog.info? 43).map (·.size) = some 1 := by kernel_rfl

/-! ### CLOSED FACTS ON THE METHOD SETS: what errors.is's assertions find -/
theorem Tryf.noIsE (v : Value) (xT : TypeId) (w : World) : (Instr.typeAssert (.iface 41 v) xT 49 true).run Tryf.prog w = .ok (.tuple #[.nilIface, .bool false]) w := run_typeAssert_lacksB Tryf.underlying49 (by kernel_rfl) (by kernel_rfl) v xT w
theorem Tryf.noUnwrapE (v : Value) (xT : TypeId) (w : World) : (Instr.typeAssert (.iface 41 v) xT 38 true).run Tryf.prog w = .ok (.tuple #[.nilIface, .bool false]) w := run_typeAssert_lacksB Tryf.underlying38 (by kernel_rfl) (by kernel_rfl) v xT w
theorem Tryf.noUnwrapsE (v : Value) (xT : TypeId) (w : World) : (Instr.typeAssert (.iface 41 v) xT 52 true).run Tryf.prog w = .ok (.tuple #[.nilIface, .bool false]) w := run_typeAssert_lacksB Tryf.underlying52 (by kernel_rfl) (by kernel_rfl) v xT w
theorem Tryf.noIsW (v : Value) (xT : TypeId) (w : World) : (Instr.typeAssert (.iface 45 v) xT 49 true).run Tryf.prog w = .ok (.tuple #[.nilIface, .bool false]) w := run_typeAssert_lacksB Tryf.underlying49 (by kernel_rfl) (by kernel_rfl) v xT w
theorem Tryf.hasUnwrapW (v : Value) (xT : TypeId) (w : World) : (Instr.typeAssert (.iface 45 v) xT 38 true).run Tryf.prog w = .ok (.tuple #[.iface 45 v, .bool true]) w := run_typeAssert_hasB Tryf.underlying38 (by kernel_rfl) v xT w
theorem Tryf.methodUnwrap (v : Value) (w : World) : (Go.method 193 45 v "Unwrap").run Tryf.prog w = .ok (35, v) w := by kernel_rfl

/-- errors.Is(x, x), x a pointer to an errors.errorString. -/
theorem is_same (a : Addr) (w : World) :
    Calls Tryf.prog 11 #[.iface 41 (.pointer (some a)), .iface 41 (.pointer (some a))] w fun e w' => e = .returned (.bool true) ∧ w' = w := by
  obtain ⟨i, hi, hcmp⟩ := Option.map_eq_some_iff.1 Tryf.isComp
  obtain ⟨j, hj, hjs⟩ := Option.map_eq_some_iff.1 Tryf.isSize
  have h8 := @run_callFunc_extern Tryf.prog 15 _ Extern.ReflectliteType.typeOf Tryf.func15 (by kernel_rfl) (by kernel_rfl) (by kernel_rfl) (by kernel_rfl)
  have h32 := @run_callFunc_extern Tryf.prog 39 _ cmpEntry Tryf.func39 (by kernel_rfl) (by kernel_rfl) (by kernel_rfl) (by kernel_rfl)
  have tT := Tryf.isTypeOf
  have cT := Tryf.isComparable
  have mR := Tryf.isMethodComparable
  have heq := run_eql_iface_ptr_same (P := Tryf.prog) w a Tryf.underlying27 Tryf.underlying41 hi hcmp hj
  go_enter Tryf.func11, Tryf.ntmps11
  go_wp2
  refine wp_loop_rounds 1 ?_
  rw [rounds_succ]
  go_wp2
  go_ret
  exact ⟨rfl, rfl⟩

/-- errors.Is(nil, x). -/
theorem is_nil (b : Addr) (w : World) :
    Calls Tryf.prog 11 #[.nilIface, .iface 41 (.pointer (some b))] w fun e w' => e = .returned (.bool false) ∧ w' = w := by
  have hn := run_eql_iface_nil_left (P := Tryf.prog) w 41 (.pointer (some b)) Tryf.underlying27
  go_enter Tryf.func11, Tryf.ntmps11
  go_wp2
  go_ret
  exact ⟨rfl, rfl⟩

/-- errors.Is(x, y), two different pointers to errors.errorString: neither has Is nor Unwrap: false. -/
theorem is_other (a b : Addr) (ca cb : Array Value) (ta tb : TypeId) (w : World) (hne : a ≠ b) (ha : w.heap[a.block]? = some (.cells ca ta (0, 0))) (hb : w.heap[b.block]? = some (.cells cb tb (0, 0))) :
    Calls Tryf.prog 11 #[.iface 41 (.pointer (some a)), .iface 41 (.pointer (some b))] w fun e w' => e = .returned (.bool false) ∧ w' = w := by
  obtain ⟨i, hi, hcmp⟩ := Option.map_eq_some_iff.1 Tryf.isComp
  obtain ⟨j, hj, hjs⟩ := Option.map_eq_some_iff.1 Tryf.isSize
  have h8 := @run_callFunc_extern Tryf.prog 15 _ Extern.ReflectliteType.typeOf Tryf.func15 (by kernel_rfl) (by kernel_rfl) (by kernel_rfl) (by kernel_rfl)
  have h32 := @run_callFunc_extern Tryf.prog 39 _ cmpEntry Tryf.func39 (by kernel_rfl) (by kernel_rfl) (by kernel_rfl) (by kernel_rfl)
  have tT := Tryf.isTypeOf
  have cT := Tryf.isComparable
  have mR := Tryf.isMethodComparable
  have nE := Tryf.noIsE
  have uE := Tryf.noUnwrapE
  have vE := Tryf.noUnwrapsE
  have nW := Tryf.noIsW
  have uW := Tryf.hasUnwrapW
  have mU := Tryf.methodUnwrap
  have heq := run_eql_iface_ptr_other (P := Tryf.prog) w Tryf.underlying27 Tryf.underlying41 hi hcmp hj (by rw [hjs]; decide) hne ha hb
  go_enter Tryf.func11, Tryf.ntmps11
  go_wp2
  refine wp_loop_rounds 1 ?_
  rw [rounds_succ]
  go_wp2
  go_ret
  exact ⟨rfl, rfl⟩

/-- errors.Is(e, x), e a *fmt.wrapError that wraps x itself: one Unwrap, then equal. -/
theorem is_wrap_same (pb po : Nat) (b : Addr) (w : World) (h1 : w.cell? ⟨pb, po + 1, none⟩ = some (.iface 41 (.pointer (some b)))) :
    Calls Tryf.prog 11 #[.iface 45 (.pointer (some ⟨pb, po, none⟩)), .iface 41 (.pointer (some b))] w fun e w' => e = .returned (.bool true) ∧ w' = w := by
  obtain ⟨i, hi, hcmp⟩ := Option.map_eq_some_iff.1 Tryf.isComp
  obtain ⟨j, hj, hjs⟩ := Option.map_eq_some_iff.1 Tryf.isSize
  have h8 := @run_callFunc_extern Tryf.prog 15 _ Extern.ReflectliteType.typeOf Tryf.func15 (by kernel_rfl) (by kernel_rfl) (by kernel_rfl) (by kernel_rfl)
  have h32 := @run_callFunc_extern Tryf.prog 39 _ cmpEntry Tryf.func39 (by kernel_rfl) (by kernel_rfl) (by kernel_rfl) (by kernel_rfl)
  have tT := Tryf.isTypeOf
  have cT := Tryf.isComparable
  have mR := Tryf.isMethodComparable
  have nE := Tryf.noIsE
  have uE := Tryf.noUnwrapE
  have vE := Tryf.noUnwrapsE
  have nW := Tryf.noIsW
  have uW := Tryf.hasUnwrapW
  have mU := Tryf.methodUnwrap
  have heq := run_eql_iface_ptr_same (P := Tryf.prog) w b Tryf.underlying27 Tryf.underlying41 hi hcmp hj
  have hty := run_eql_iface_types (P := Tryf.prog) 45 41 (.pointer (some ⟨pb, po, none⟩)) (.pointer (some b)) Tryf.underlying27 (by decide) w
  go_enter Tryf.func11, Tryf.ntmps11
  go_wp2
  refine wp_loop_rounds 2 ?_
  rw [rounds_succ]
  go_wp2
  rw [rounds_succ]
  go_wp2
  go_ret
  exact ⟨rfl, rfl⟩

/-- errors.Is(e, x), e a *fmt.wrapError that wraps another error of errors.New's make. -/
theorem is_wrap_other (pb po : Nat) (b a : Addr) (ca cb : Array Value) (ta tb : TypeId) (w : World) (h1 : w.cell? ⟨pb, po + 1, none⟩ = some (.iface 41 (.pointer (some a)))) (hne : a ≠ b) (ha : w.heap[a.block]? = some (.cells ca ta (0, 0))) (hb : w.heap[b.block]? = some (.cells cb tb (0, 0))) :
    Calls Tryf.prog 11 #[.iface 45 (.pointer (some ⟨pb, po, none⟩)), .iface 41 (.pointer (some b))] w fun e w' => e = .returned (.bool false) ∧ w' = w := by
  obtain ⟨i, hi, hcmp⟩ := Option.map_eq_some_iff.1 Tryf.isComp
  obtain ⟨j, hj, hjs⟩ := Option.map_eq_some_iff.1 Tryf.isSize
  have h8 := @run_callFunc_extern Tryf.prog 15 _ Extern.ReflectliteType.typeOf Tryf.func15 (by kernel_rfl) (by kernel_rfl) (by kernel_rfl) (by kernel_rfl)
  have h32 := @run_callFunc_extern Tryf.prog 39 _ cmpEntry Tryf.func39 (by kernel_rfl) (by kernel_rfl) (by kernel_rfl) (by kernel_rfl)
  have tT := Tryf.isTypeOf
  have cT := Tryf.isComparable
  have mR := Tryf.isMethodComparable
  have nE := Tryf.noIsE
  have uE := Tryf.noUnwrapE
  have vE := Tryf.noUnwrapsE
  have nW := Tryf.noIsW
  have uW := Tryf.hasUnwrapW
  have mU := Tryf.methodUnwrap
  have heq := run_eql_iface_ptr_other (P := Tryf.prog) w Tryf.underlying27 Tryf.underlying41 hi hcmp hj (by rw [hjs]; decide) hne ha hb
  have hty := run_eql_iface_types (P := Tryf.prog) 45 41 (.pointer (some ⟨pb, po, none⟩)) (.pointer (some b)) Tryf.underlying27 (by decide) w
  go_enter Tryf.func11, Tryf.ntmps11
  go_wp2
  refine wp_loop_rounds 2 ?_
  rw [rounds_succ]
  go_wp2
  rw [rounds_succ]
  go_wp2
  go_ret
  exact ⟨rfl, rfl⟩

end Go.Proofs.Qxb6612672aFmt
