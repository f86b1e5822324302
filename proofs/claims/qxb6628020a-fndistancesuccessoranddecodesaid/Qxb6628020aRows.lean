/-
  No cell of these rows narrows 'for every input' (looked for: loops, veiled, ifaces, maps, wideKeys, modest, calm, conditions, laid).
  DERIVED. THE GIVEN ROWS OF THIS SEAT. 2 by the template 'for every input the law returns true; each argument reads behind the call as it read before'; 0 by the template 'total and deterministic' (their statements: Qxb6628020aTotals.lean).
  GIVEN WITH THE SEED: the statements are not yours to turn. If you find one false, say at which input.
  Laid BY PROGRAM, IN A SANDBOX (cutbox-rows.mjs): the forced cells as the released guide's own fill.sh prints them over the translation 63e2924cf6490c74… (all of the seat's roots in one cut). By AI agents, Wed Nov 11 2026. No macro, syntax, notation, axiom, sorry.
-/
import Derived.Test.Qxb6628020aChecked
import GoSem.Claim
import GoSem.ClaimJoined
import GoSem.ClaimMapViews
import Derived.JoinedTies
import Derived.KernelRfl
namespace Go.Proofs.Qxb6628020a
/- THE CELL 'sum', in the pinned program and in every row, IS THE sha256 OF THE DUMP (.gsa) THAT Qxb6628020aProg.lean LOADS. Nothing in Lean hashes anything: it is a label: what it is worth is what the hold of that sum in a sandbox is worth. -/
noncomputable def Try.pinned : Pinned := { name := "qxb6628020a", sum := "63e2924cf6490c74a0fb4fe1b4959cee793aaef3b9b33187243584a89aeb4fbc", checked := Try.checked }
namespace Rows
def none {H : Type} : Left H := { results := [], args := [] }

/-- 'zzlaws_internal_packtest_b1.FnDistanceSuccessorAndDecode': WHATEVER THE INPUT: true; the input reads as it did. -/
def fnDistanceSuccessorAndDecodeSpec : ChangeSpec := { name := "fnDistanceSuccessorAndDecode", fn := fun _ => fun
  | [d] => { results := [.lit (.bool true)], args := [d] }
  | _ => none }
def fnDistanceSuccessorAndDecodeRow : OpenClaim := { program := "qxb6628020a", sum := "63e2924cf6490c74a0fb4fe1b4959cee793aaef3b9b33187243584a89aeb4fbc", func := "example.com/objectwell/objectwell/zzlaws_internal_packtest_b1.FnDistanceSuccessorAndDecode", spec := "fnDistanceSuccessorAndDecode", apart := false }
def FnDistanceSuccessorAndDecodeSaid : Prop := fnDistanceSuccessorAndDecodeRow.holds Try.pinned (OpenSpec.ofChange fnDistanceSuccessorAndDecodeSpec)

/-- ITS FALSE NEIGHBOUR: 'it returns false'. Refute it at one input. -/
def fnDistanceSuccessorAndDecodeWrong : ChangeSpec := { name := "fnDistanceSuccessorAndDecode", fn := fun _ => fun
  | [d] => { results := [.lit (.bool false)], args := [d] }
  | _ => none }
def FnDistanceSuccessorAndDecodeWrongFalsely : Prop := fnDistanceSuccessorAndDecodeRow.holds Try.pinned (OpenSpec.ofChange fnDistanceSuccessorAndDecodeWrong)

/-- 'zzlaws_internal_packtest_b1.FnDistanceOrderAndLength': WHATEVER THE INPUT: true; the input reads as it did. -/
def fnDistanceOrderAndLengthSpec : ChangeSpec := { name := "fnDistanceOrderAndLength", fn := fun _ => fun
  | [d1, d2] => { results := [.lit (.bool true)], args := [d1, d2] }
  | _ => none }
def fnDistanceOrderAndLengthRow : OpenClaim := { program := "qxb6628020a", sum := "63e2924cf6490c74a0fb4fe1b4959cee793aaef3b9b33187243584a89aeb4fbc", func := "example.com/objectwell/objectwell/zzlaws_internal_packtest_b1.FnDistanceOrderAndLength", spec := "fnDistanceOrderAndLength", apart := false }
def FnDistanceOrderAndLengthSaid : Prop := fnDistanceOrderAndLengthRow.holds Try.pinned (OpenSpec.ofChange fnDistanceOrderAndLengthSpec)

/-- ITS FALSE NEIGHBOUR: 'it returns false'. Refute it at one input. -/
def fnDistanceOrderAndLengthWrong : ChangeSpec := { name := "fnDistanceOrderAndLength", fn := fun _ => fun
  | [d1, d2] => { results := [.lit (.bool false)], args := [d1, d2] }
  | _ => none }
def FnDistanceOrderAndLengthWrongFalsely : Prop := fnDistanceOrderAndLengthRow.holds Try.pinned (OpenSpec.ofChange fnDistanceOrderAndLengthWrong)

end Rows
end Go.Proofs.Qxb6628020a
