/-
  CLOSED FACTS for the walk over fmt's stopped front, at this program's numbers (the kind of lines that the kit's tool prints; here typed for the one format '"broke: %w"').
-/
import Derived.Test.Qxb6612672aFmtIs
import Derived.Stop.CallBack
import Derived.Stop.IfaceNil
import Derived.Stop.JoinedTold
import Derived.Stop.Texts
import Derived.Stop.FmtTextVerbs
import Derived.WalkSpells
import Derived.WalkSmall
import GoSem.ClaimData
namespace Go.Proofs.Qxb6612672aFmt
open Go.RowKit Go.Kit Go.Extern.Stop Go.Stop Go.Extern

theorem call17 (args : Array Value) (w : World) : (callFunc 17 args).run Tryf.prog w = ((FmtStop.errorf #[9, 44] #[27] args).run Tryf.prog w).andThen fun v w' => .ok (.value v) w' :=
  run_callFunc_extern Tryf.func17 (by kernel_rfl) (by kernel_rfl) (by kernel_rfl) (by kernel_rfl) args w
theorem guardF (name : String) (w : World) : (FmtStop.guard name).run Tryf.prog w = .ok () w := by kernel_rfl
theorem fmt0 : FmtStop.printed? ⟨#[98, 114, 111, 107, 101, 58, 32, 37, 119]⟩ 1 = some [(0, 119, false)] := by kernel_rfl
theorem fmt0r (w : World) : (FmtDoors.printed ⟨#[98, 114, 111, 107, 101, 58, 32, 37, 119]⟩ 1).run Tryf.prog w = .ok [(0, 119, false)] w := by kernel_rfl
theorem fmt1 : FmtStop.printed? ⟨#[98, 114, 111, 107, 101, 58, 32, 37, 119]⟩ 0 = some [] := by kernel_rfl
theorem fmt1r (w : World) : (FmtDoors.printed ⟨#[98, 114, 111, 107, 101, 58, 32, 37, 119]⟩ 0).run Tryf.prog w = .ok [] w := by kernel_rfl
theorem ptr41 (w : World) : (FmtStop.ptrTo "errors.errorString").run Tryf.prog w = .ok 41 w := by kernel_rfl
theorem elem41 (w : World) : (elemOf 41).run Tryf.prog w = .ok 43 w := by kernel_rfl
theorem isError41 (w : World) : (FmtDoors.textMethod 41 "Error").run Tryf.prog w = .ok true w := by kernel_rfl
/-- The name of the type of a pointer to errors.errorString: a star ahead. -/
def nameE : String := String.ofList (Char.ofNat 42 :: "errors.errorString".toList)
def plain41 : List UInt8 := 14 :: FmtStop.pack nameE.toUTF8.data.toList
theorem opPlain41 (name : String) (a : Addr) (s : ByteArray) (w : World) (hc : w.cell? a = some (.string s)) :
    (FmtStop.operand name true 119 false (.iface 41 (.pointer (some a)))).run Tryf.prog w = .ok (plain41, s.data.toList) w := by
  have h1 : (typeStr 41).run Tryf.prog w = .ok nameE w := by kernel_rfl
  have d2 : Tryf.t41.desc = .pointer 43 := rfl
  have d3 : Tryf.t43.desc = .named "errors.errorString" 42 := rfl
  simp [FmtStop.operand, h1, d2, d3, run_load, hc, plain41]
theorem ptr45 (w : World) : (FmtStop.ptrTo "fmt.wrapError").run Tryf.prog w = .ok 45 w := by kernel_rfl
theorem elem45 (w : World) : (elemOf 45).run Tryf.prog w = .ok 78 w := by kernel_rfl
theorem isError45 (w : World) : (FmtDoors.textMethod 45 "Error").run Tryf.prog w = .ok true w := by kernel_rfl
theorem methodErrE (v : Value) (w : World) : (Go.method 193 41 v "Error").run Tryf.prog w = .ok (33, v) w := by kernel_rfl
theorem methodErrW (v : Value) (w : World) : (Go.method 193 45 v "Error").run Tryf.prog w = .ok (34, v) w := by kernel_rfl

attribute [local go_sem] call17 guardF fmt0 fmt0r fmt1 fmt1r ptr41 elem41 isError41 ptr45 elem45 isError45

/-- What fmt is asked: the format; the error's shape; its text. -/
def reading (s : List UInt8) : List (List UInt8) := [[98, 114, 111, 107, 101, 58, 32, 37, 119], plain41, s]

/-- "broke: ". -/
def brk : ByteArray := ⟨#[98, 114, 111, 107, 101, 58, 32]⟩

theorem broke_parse : (FmtText.parse [98, 114, 111, 107, 101, 58, 32, 37, 119]).map FmtText.glue = some [.lit [98, 114, 111, 107, 101, 58, 32], .verb {} 119] := by rfl

theorem broke_text (s : List UInt8) : FmtText.text "fmt.errorf" (reading s) = some ([98, 114, 111, 107, 101, 58, 32] ++ s) := by
  have ho : FmtText.operands [plain41, s] = some [.said nameE.toUTF8.data.toList true false s] :=
    FmtText.operands_cons (FmtText.operand_plain (FmtText.unpack_pack _ (by decide +kernel)) s) FmtText.operands_nil
  rw [reading, FmtText.text_errorf_glued broke_parse ho]
  simp [FmtText.render, FmtText.printArg_w_said]

theorem broke_told (F : Interp) (s : ByteArray) (hs : s.size ≤ 1048576) : FmtStop.textOf (F.told "fmt.errorf" (reading s.data.toList) 0) = brk ++ s := by
  have h1 : (FmtStop.textOf (F.told "fmt.errorf" (reading s.data.toList) 0)).data.toList = (brk ++ s).data.toList := by
    rw [textOf_list, told_string F (broke_text _) (by simp; have : s.data.size = s.size := rfl; omega)]
    simp [brk, ByteArray.data_append]
  have h2 := Array.toList_inj.1 h1
  cases hx : FmtStop.textOf (F.told "fmt.errorf" (reading s.data.toList) 0) with
  | mk d =>
    rw [hx] at h2
    cases hy : brk ++ s with
    | mk d' =>
      rw [hy] at h2
      exact congrArg ByteArray.mk h2

set_option maxHeartbeats 1000000 in
theorem errorf_told (F : Interp) (a : Addr) (s : ByteArray) (w : World) (x : Addr) (hF : F.told.answers w.tape) (hx : w.cell? x = some (.iface 41 (.pointer (some a)))) (hs : w.cell? a = some (.string s)) (hl : s.size ≤ 1048576) :
    Calls Tryf.prog 14 #[.string ⟨#[98, 114, 111, 107, 101, 58, 32, 37, 119]⟩, .slice (some x) 1 1] w fun e w' =>
      ∃ p, e = .returned (.iface 45 (.pointer (some ⟨p, 0, none⟩))) ∧ w.heap.size ≤ p ∧ w'.cell? ⟨p, 0, none⟩ = some (.string (brk ++ s)) ∧ w'.cell? ⟨p, 1, none⟩ = some (.iface 41 (.pointer (some a))) ∧ Below w.heap.size w w' := by
  have hF' : ∀ i name reading k range, w.tape i (.extern (word name reading k) range) = F.told name reading k := hF
  have hop := opPlain41 "fmt.errorf" a s _ hs
  have HT := (show Hid (FmtStop.textOf (F.told "fmt.errorf" (reading s.data.toList) 0) = brk ++ s) from broke_told F s hl)
  go_enter Tryf.func14, Tryf.ntmps14
  go_wp2
  go_ret
  refine ⟨w.heap.size, rfl, Nat.le_refl _, ?_, ?_, ((Below.refl _ w).alloc (Nat.le_refl _) _).drew⟩
  · rw [World.cell?_drew, World.cell?_alloc_new]
    exact congrArg (fun t => some (Value.string t)) HT.out
  · rw [World.cell?_drew, World.cell?_alloc_new]
    rfl
end Go.Proofs.Qxb6612672aFmt
