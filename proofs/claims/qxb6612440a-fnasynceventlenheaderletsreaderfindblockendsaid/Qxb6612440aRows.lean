/-
  No cell of these rows narrows 'for every input' (looked for: loops, veiled, ifaces, maps, wideKeys, modest, calm, conditions, laid).
  DERIVED. THE GIVEN ROWS OF THIS SEAT. 2 by the template 'for every input the law returns true; each argument reads behind the call as it read before'; 0 by the template 'total and deterministic' (their statements: Qxb6612440aTotals.lean).
  GIVEN WITH THE SEED: the statements are not yours to turn. If you find one false, say at which input.
  Laid BY PROGRAM, IN A SANDBOX (cutbox-rows.mjs): the forced cells as the released guide's own fill.sh prints them over the translation 865dde1024ad16ae… (all of the seat's roots in one cut). By AI agents, Wed Nov 11 2026. No macro, syntax, notation, axiom, sorry.
-/
import Derived.Test.Qxb6612440aChecked
import GoSem.Claim
import GoSem.ClaimJoined
import GoSem.ClaimMapViews
import Derived.JoinedTies
import Derived.KernelRfl
namespace Go.Proofs.Qxb6612440a
/- THE CELL 'sum', in the pinned program and in every row, IS THE sha256 OF THE DUMP (.gsa) THAT Qxb6612440aProg.lean LOADS. Nothing in Lean hashes anything: it is a label: what it is worth is what the hold of that sum in a sandbox is worth. -/
noncomputable def Try.pinned : Pinned := { name := "qxb6612440a", sum := "865dde1024ad16ae47d8db83bcb750bd95f3295b988fa7a190e1bdf11ede614b", checked := Try.checked }
namespace Rows
def none {H : Type} : Left H := { results := [], args := [] }

/-- 'zzlaws_internal_pluginapi_b1.FnReadBlockLenReadsBackEncodedHeader': WHATEVER THE INPUT: true; the input reads as it did. -/
def fnReadBlockLenReadsBackEncodedHeaderSpec : ChangeSpec := { name := "fnReadBlockLenReadsBackEncodedHeader", fn := fun _ => fun
  | [d1, d2, d3, d4, d5, d6] => { results := [.lit (.bool true)], args := [d1, d2, d3, d4, d5, d6] }
  | _ => none }
def fnReadBlockLenReadsBackEncodedHeaderRow : OpenClaim := { program := "qxb6612440a", sum := "865dde1024ad16ae47d8db83bcb750bd95f3295b988fa7a190e1bdf11ede614b", func := "example.com/fieldhook/fieldhook/zzlaws_internal_pluginapi_b1.FnReadBlockLenReadsBackEncodedHeader", spec := "fnReadBlockLenReadsBackEncodedHeader", named := ["encoding/binary.LittleEndian"], apart := false }
def FnReadBlockLenReadsBackEncodedHeaderSaid : Prop := fnReadBlockLenReadsBackEncodedHeaderRow.holds Try.pinned (OpenSpec.ofChange fnReadBlockLenReadsBackEncodedHeaderSpec)

/-- ITS FALSE NEIGHBOUR: 'it returns false'. Refute it at one input. -/
def fnReadBlockLenReadsBackEncodedHeaderWrong : ChangeSpec := { name := "fnReadBlockLenReadsBackEncodedHeader", fn := fun _ => fun
  | [d1, d2, d3, d4, d5, d6] => { results := [.lit (.bool false)], args := [d1, d2, d3, d4, d5, d6] }
  | _ => none }
def FnReadBlockLenReadsBackEncodedHeaderWrongFalsely : Prop := fnReadBlockLenReadsBackEncodedHeaderRow.holds Try.pinned (OpenSpec.ofChange fnReadBlockLenReadsBackEncodedHeaderWrong)

/-- 'zzlaws_internal_pluginapi_b1.FnAsyncEventLenHeaderLetsReaderFindBlockEnd': WHATEVER THE INPUT: true; the input reads as it did. -/
def fnAsyncEventLenHeaderLetsReaderFindBlockEndSpec : ChangeSpec := { name := "fnAsyncEventLenHeaderLetsReaderFindBlockEnd", fn := fun _ => fun
  | [d1, d2] => { results := [.lit (.bool true)], args := [d1, d2] }
  | _ => none }
def fnAsyncEventLenHeaderLetsReaderFindBlockEndRow : OpenClaim := { program := "qxb6612440a", sum := "865dde1024ad16ae47d8db83bcb750bd95f3295b988fa7a190e1bdf11ede614b", func := "example.com/fieldhook/fieldhook/zzlaws_internal_pluginapi_b1.FnAsyncEventLenHeaderLetsReaderFindBlockEnd", spec := "fnAsyncEventLenHeaderLetsReaderFindBlockEnd", named := ["encoding/binary.LittleEndian"], apart := false }
def FnAsyncEventLenHeaderLetsReaderFindBlockEndSaid : Prop := fnAsyncEventLenHeaderLetsReaderFindBlockEndRow.holds Try.pinned (OpenSpec.ofChange fnAsyncEventLenHeaderLetsReaderFindBlockEndSpec)

/-- ITS FALSE NEIGHBOUR: 'it returns false'. Refute it at one input. -/
def fnAsyncEventLenHeaderLetsReaderFindBlockEndWrong : ChangeSpec := { name := "fnAsyncEventLenHeaderLetsReaderFindBlockEnd", fn := fun _ => fun
  | [d1, d2] => { results := [.lit (.bool false)], args := [d1, d2] }
  | _ => none }
def FnAsyncEventLenHeaderLetsReaderFindBlockEndWrongFalsely : Prop := fnAsyncEventLenHeaderLetsReaderFindBlockEndRow.holds Try.pinned (OpenSpec.ofChange fnAsyncEventLenHeaderLetsReaderFindBlockEndWrong)

end Rows
end Go.Proofs.Qxb6612440a
