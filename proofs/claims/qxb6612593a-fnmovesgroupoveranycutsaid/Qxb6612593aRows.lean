/-
  No cell of these rows narrows 'for every input' (looked for: loops, veiled, ifaces, maps, wideKeys, modest, calm, conditions, laid).
  DERIVED. THE GIVEN ROWS OF THIS SEAT. 2 by the template 'for every input the law returns true; each argument reads behind the call as it read before'; 0 by the template 'total and deterministic' (their statements: Qxb6612593aTotals.lean).
  GIVEN WITH THE SEED: the statements are not yours to turn. If you find one false, say at which input.
  Laid BY PROGRAM, IN A SANDBOX (cutbox-rows.mjs): the forced cells as the released guide's own fill.sh prints them over the translation 527c7464b4918468… (all of the seat's roots in one cut). By AI agents, Wed Nov 11 2026. No macro, syntax, notation, axiom, sorry.
-/
import Derived.Test.Qxb6612593aChecked
import GoSem.Claim
import GoSem.ClaimJoined
import GoSem.ClaimMapViews
import Derived.JoinedTies
import Derived.KernelRfl
namespace Go.Proofs.Qxb6612593a
/- THE CELL 'sum', in the pinned program and in every row, IS THE sha256 OF THE DUMP (.gsa) THAT Qxb6612593aProg.lean LOADS. Nothing in Lean hashes anything: it is a label: what it is worth is what the hold of that sum in a sandbox is worth. -/
noncomputable def Try.pinned : Pinned := { name := "qxb6612593a", sum := "527c7464b49184686d1b852ba701e6245baea0ffc9064f457b575495a46681bb", checked := Try.checked }
namespace Rows
def none {H : Type} : Left H := { results := [], args := [] }

/-- 'zzlaws_root_b1.FnMovesGroupOverStatusEvents': WHATEVER THE INPUT: true; the input reads as it did. -/
def fnMovesGroupOverStatusEventsSpec : ChangeSpec := { name := "fnMovesGroupOverStatusEvents", fn := fun _ => fun
  | [d1, d2, d3, d4, d5] => { results := [.lit (.bool true)], args := [d1, d2, d3, d4, d5] }
  | _ => none }
def fnMovesGroupOverStatusEventsRow : OpenClaim := { program := "qxb6612593a", sum := "527c7464b49184686d1b852ba701e6245baea0ffc9064f457b575495a46681bb", func := "example.com/sagaline/sagaline/zzlaws_root_b1.FnMovesGroupOverStatusEvents", spec := "fnMovesGroupOverStatusEvents", unfollowed := true, recurses := true, apart := false }
def FnMovesGroupOverStatusEventsSaid : Prop := fnMovesGroupOverStatusEventsRow.holds Try.pinned (OpenSpec.ofChange fnMovesGroupOverStatusEventsSpec)

/-- ITS FALSE NEIGHBOUR: 'it returns false'. Refute it at one input. -/
def fnMovesGroupOverStatusEventsWrong : ChangeSpec := { name := "fnMovesGroupOverStatusEvents", fn := fun _ => fun
  | [d1, d2, d3, d4, d5] => { results := [.lit (.bool false)], args := [d1, d2, d3, d4, d5] }
  | _ => none }
def FnMovesGroupOverStatusEventsWrongFalsely : Prop := fnMovesGroupOverStatusEventsRow.holds Try.pinned (OpenSpec.ofChange fnMovesGroupOverStatusEventsWrong)

/-- 'zzlaws_root_b1.FnMovesGroupOverAnyCut': WHATEVER THE INPUT: true; the input reads as it did. -/
def fnMovesGroupOverAnyCutSpec : ChangeSpec := { name := "fnMovesGroupOverAnyCut", fn := fun _ => fun
  | [d1, d2, d3, d4, d5] => { results := [.lit (.bool true)], args := [d1, d2, d3, d4, d5] }
  | _ => none }
def fnMovesGroupOverAnyCutRow : OpenClaim := { program := "qxb6612593a", sum := "527c7464b49184686d1b852ba701e6245baea0ffc9064f457b575495a46681bb", func := "example.com/sagaline/sagaline/zzlaws_root_b1.FnMovesGroupOverAnyCut", spec := "fnMovesGroupOverAnyCut", unfollowed := true, recurses := true, apart := false }
def FnMovesGroupOverAnyCutSaid : Prop := fnMovesGroupOverAnyCutRow.holds Try.pinned (OpenSpec.ofChange fnMovesGroupOverAnyCutSpec)

/-- ITS FALSE NEIGHBOUR: 'it returns false'. Refute it at one input. -/
def fnMovesGroupOverAnyCutWrong : ChangeSpec := { name := "fnMovesGroupOverAnyCut", fn := fun _ => fun
  | [d1, d2, d3, d4, d5] => { results := [.lit (.bool false)], args := [d1, d2, d3, d4, d5] }
  | _ => none }
def FnMovesGroupOverAnyCutWrongFalsely : Prop := fnMovesGroupOverAnyCutRow.holds Try.pinned (OpenSpec.ofChange fnMovesGroupOverAnyCutWrong)

end Rows
end Go.Proofs.Qxb6612593a
