/-
  No cell of these rows narrows 'for every input' (looked for: loops, veiled, ifaces, maps, wideKeys, modest, calm, conditions, laid).
  DERIVED. THE GIVEN ROWS OF THIS SEAT. 2 by the template 'for every input the law returns true; each argument reads behind the call as it read before'; 0 by the template 'total and deterministic' (their statements: Qxb6628506aTotals.lean).
  GIVEN WITH THE SEED: the statements are not yours to turn. If you find one false, say at which input.
  Laid BY PROGRAM, IN A SANDBOX (cutbox-rows.mjs): the forced cells as the released guide's own fill.sh prints them over the translation 132f282709ca91b2… (all of the seat's roots in one cut). By AI agents, Wed Nov 11 2026. No macro, syntax, notation, axiom, sorry.
-/
import Derived.Test.Qxb6628506aChecked
import GoSem.Claim
import GoSem.ClaimJoined
import GoSem.ClaimMapViews
import Derived.JoinedTies
import Derived.KernelRfl
namespace Go.Proofs.Qxb6628506a
/- THE CELL 'sum', in the pinned program and in every row, IS THE sha256 OF THE DUMP (.gsa) THAT Qxb6628506aProg.lean LOADS. Nothing in Lean hashes anything: it is a label: what it is worth is what the hold of that sum in a sandbox is worth. -/
noncomputable def Try.pinned : Pinned := { name := "qxb6628506a", sum := "132f282709ca91b2c5aa2fa3d7153ab724e73f8c269e24a0be0befbe9c8a77b7", checked := Try.checked }
namespace Rows
def none {H : Type} : Left H := { results := [], args := [] }

/-- 'zzlaws_pkg_user_b1.FnInGroupInsertAnywhere': WHATEVER THE INPUT: true; the input reads as it did. -/
def fnInGroupInsertAnywhereSpec : ChangeSpec := { name := "fnInGroupInsertAnywhere", fn := fun _ => fun
  | [d1, d2, d3, d4, d5, d6] => { results := [.lit (.bool true)], args := [d1, d2, d3, d4, d5, d6] }
  | _ => none }
def fnInGroupInsertAnywhereRow : OpenClaim := { program := "qxb6628506a", sum := "132f282709ca91b2c5aa2fa3d7153ab724e73f8c269e24a0be0befbe9c8a77b7", func := "example.com/portcullis/portcullis/zzlaws_pkg_user_b1.FnInGroupInsertAnywhere", spec := "fnInGroupInsertAnywhere", apart := false }
def FnInGroupInsertAnywhereSaid : Prop := fnInGroupInsertAnywhereRow.holds Try.pinned (OpenSpec.ofChange fnInGroupInsertAnywhereSpec)

/-- ITS FALSE NEIGHBOUR: 'it returns false'. Refute it at one input. -/
def fnInGroupInsertAnywhereWrong : ChangeSpec := { name := "fnInGroupInsertAnywhere", fn := fun _ => fun
  | [d1, d2, d3, d4, d5, d6] => { results := [.lit (.bool false)], args := [d1, d2, d3, d4, d5, d6] }
  | _ => none }
def FnInGroupInsertAnywhereWrongFalsely : Prop := fnInGroupInsertAnywhereRow.holds Try.pinned (OpenSpec.ofChange fnInGroupInsertAnywhereWrong)

/-- 'zzlaws_pkg_user_b1.FnInGroupAfterRemoval': WHATEVER THE INPUT: true; the input reads as it did. -/
def fnInGroupAfterRemovalSpec : ChangeSpec := { name := "fnInGroupAfterRemoval", fn := fun _ => fun
  | [d1, d2, d3, d4, d5] => { results := [.lit (.bool true)], args := [d1, d2, d3, d4, d5] }
  | _ => none }
def fnInGroupAfterRemovalRow : OpenClaim := { program := "qxb6628506a", sum := "132f282709ca91b2c5aa2fa3d7153ab724e73f8c269e24a0be0befbe9c8a77b7", func := "example.com/portcullis/portcullis/zzlaws_pkg_user_b1.FnInGroupAfterRemoval", spec := "fnInGroupAfterRemoval", apart := false }
def FnInGroupAfterRemovalSaid : Prop := fnInGroupAfterRemovalRow.holds Try.pinned (OpenSpec.ofChange fnInGroupAfterRemovalSpec)

/-- ITS FALSE NEIGHBOUR: 'it returns false'. Refute it at one input. -/
def fnInGroupAfterRemovalWrong : ChangeSpec := { name := "fnInGroupAfterRemoval", fn := fun _ => fun
  | [d1, d2, d3, d4, d5] => { results := [.lit (.bool false)], args := [d1, d2, d3, d4, d5] }
  | _ => none }
def FnInGroupAfterRemovalWrongFalsely : Prop := fnInGroupAfterRemovalRow.holds Try.pinned (OpenSpec.ofChange fnInGroupAfterRemovalWrong)

end Rows
end Go.Proofs.Qxb6628506a
