/-
  No cell of these rows narrows 'for every input' (looked for: loops, veiled, ifaces, maps, wideKeys, modest, calm, conditions, laid).
  DERIVED. THE GIVEN ROWS OF THIS SEAT. 3 by the template 'for every input the law returns true; each argument reads behind the call as it read before'; 0 by the template 'total and deterministic' (their statements: Qxb6612598aTotals.lean).
  GIVEN WITH THE SEED: the statements are not yours to turn. If you find one false, say at which input.
  Laid BY PROGRAM, IN A SANDBOX (cutbox-rows.mjs): the forced cells as the released guide's own fill.sh prints them over the translation fe2d71f0d5d63394… (all of the seat's roots in one cut). By AI agents, Wed Nov 11 2026. No macro, syntax, notation, axiom, sorry.
-/
import Derived.Test.Qxb6612598aChecked
import GoSem.Claim
import GoSem.ClaimJoined
import GoSem.ClaimMapViews
import Derived.JoinedTies
import Derived.KernelRfl
namespace Go.Proofs.Qxb6612598a
/- THE CELL 'sum', in the pinned program and in every row, IS THE sha256 OF THE DUMP (.gsa) THAT Qxb6612598aProg.lean LOADS. Nothing in Lean hashes anything: it is a label: what it is worth is what the hold of that sum in a sandbox is worth. -/
noncomputable def Try.pinned : Pinned := { name := "qxb6612598a", sum := "fe2d71f0d5d63394faffdbddb804c05cd97e9bde119fb652a7e398d952382969", checked := Try.checked }
namespace Rows
def none {H : Type} : Left H := { results := [], args := [] }

/-- 'zzlaws_internal_engine_b1.FnVersionSizeIsBytesAboveEmptyVersion': WHATEVER THE INPUT: true; the input reads as it did. -/
def fnVersionSizeIsBytesAboveEmptyVersionSpec : ChangeSpec := { name := "fnVersionSizeIsBytesAboveEmptyVersion", fn := fun _ => fun
  | [d1, d2, d3] => { results := [.lit (.bool true)], args := [d1, d2, d3] }
  | _ => none }
def fnVersionSizeIsBytesAboveEmptyVersionRow : OpenClaim := { program := "qxb6612598a", sum := "fe2d71f0d5d63394faffdbddb804c05cd97e9bde119fb652a7e398d952382969", func := "example.com/latchkey/latchkey/zzlaws_internal_engine_b1.FnVersionSizeIsBytesAboveEmptyVersion", spec := "fnVersionSizeIsBytesAboveEmptyVersion", apart := false }
def FnVersionSizeIsBytesAboveEmptyVersionSaid : Prop := fnVersionSizeIsBytesAboveEmptyVersionRow.holds Try.pinned (OpenSpec.ofChange fnVersionSizeIsBytesAboveEmptyVersionSpec)

/-- ITS FALSE NEIGHBOUR: 'it returns false'. Refute it at one input. -/
def fnVersionSizeIsBytesAboveEmptyVersionWrong : ChangeSpec := { name := "fnVersionSizeIsBytesAboveEmptyVersion", fn := fun _ => fun
  | [d1, d2, d3] => { results := [.lit (.bool false)], args := [d1, d2, d3] }
  | _ => none }
def FnVersionSizeIsBytesAboveEmptyVersionWrongFalsely : Prop := fnVersionSizeIsBytesAboveEmptyVersionRow.holds Try.pinned (OpenSpec.ofChange fnVersionSizeIsBytesAboveEmptyVersionWrong)

/-- 'zzlaws_internal_engine_b1.FnRunEntriesAddsOverAnyCut': WHATEVER THE INPUT: true; the input reads as it did. -/
def fnRunEntriesAddsOverAnyCutSpec : ChangeSpec := { name := "fnRunEntriesAddsOverAnyCut", fn := fun _ => fun
  | [d1, d2] => { results := [.lit (.bool true)], args := [d1, d2] }
  | _ => none }
def fnRunEntriesAddsOverAnyCutRow : OpenClaim := { program := "qxb6612598a", sum := "fe2d71f0d5d63394faffdbddb804c05cd97e9bde119fb652a7e398d952382969", func := "example.com/latchkey/latchkey/zzlaws_internal_engine_b1.FnRunEntriesAddsOverAnyCut", spec := "fnRunEntriesAddsOverAnyCut", apart := false }
def FnRunEntriesAddsOverAnyCutSaid : Prop := fnRunEntriesAddsOverAnyCutRow.holds Try.pinned (OpenSpec.ofChange fnRunEntriesAddsOverAnyCutSpec)

/-- ITS FALSE NEIGHBOUR: 'it returns false'. Refute it at one input. -/
def fnRunEntriesAddsOverAnyCutWrong : ChangeSpec := { name := "fnRunEntriesAddsOverAnyCut", fn := fun _ => fun
  | [d1, d2] => { results := [.lit (.bool false)], args := [d1, d2] }
  | _ => none }
def FnRunEntriesAddsOverAnyCutWrongFalsely : Prop := fnRunEntriesAddsOverAnyCutRow.holds Try.pinned (OpenSpec.ofChange fnRunEntriesAddsOverAnyCutWrong)

/-- 'zzlaws_internal_engine_b1.FnRunEntriesTableInsertedAnywhereAddsItsCount': WHATEVER THE INPUT: true; the input reads as it did. -/
def fnRunEntriesTableInsertedAnywhereAddsItsCountSpec : ChangeSpec := { name := "fnRunEntriesTableInsertedAnywhereAddsItsCount", fn := fun _ => fun
  | [d1, d2, d3, d4] => { results := [.lit (.bool true)], args := [d1, d2, d3, d4] }
  | _ => none }
def fnRunEntriesTableInsertedAnywhereAddsItsCountRow : OpenClaim := { program := "qxb6612598a", sum := "fe2d71f0d5d63394faffdbddb804c05cd97e9bde119fb652a7e398d952382969", func := "example.com/latchkey/latchkey/zzlaws_internal_engine_b1.FnRunEntriesTableInsertedAnywhereAddsItsCount", spec := "fnRunEntriesTableInsertedAnywhereAddsItsCount", apart := false }
def FnRunEntriesTableInsertedAnywhereAddsItsCountSaid : Prop := fnRunEntriesTableInsertedAnywhereAddsItsCountRow.holds Try.pinned (OpenSpec.ofChange fnRunEntriesTableInsertedAnywhereAddsItsCountSpec)

/-- ITS FALSE NEIGHBOUR: 'it returns false'. Refute it at one input. -/
def fnRunEntriesTableInsertedAnywhereAddsItsCountWrong : ChangeSpec := { name := "fnRunEntriesTableInsertedAnywhereAddsItsCount", fn := fun _ => fun
  | [d1, d2, d3, d4] => { results := [.lit (.bool false)], args := [d1, d2, d3, d4] }
  | _ => none }
def FnRunEntriesTableInsertedAnywhereAddsItsCountWrongFalsely : Prop := fnRunEntriesTableInsertedAnywhereAddsItsCountRow.holds Try.pinned (OpenSpec.ofChange fnRunEntriesTableInsertedAnywhereAddsItsCountWrong)

end Rows
end Go.Proofs.Qxb6612598a
