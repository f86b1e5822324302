/-
  No cell of these rows narrows 'for every input' (looked for: loops, veiled, ifaces, maps, wideKeys, modest, calm, conditions, laid).
  DERIVED. THE GIVEN ROWS OF THIS SEAT. 2 by the template 'for every input the law returns true; each argument reads behind the call as it read before'; 0 by the template 'total and deterministic' (their statements: Qxb6628593aTotals.lean).
  GIVEN WITH THE SEED: the statements are not yours to turn. If you find one false, say at which input.
  Laid BY PROGRAM, IN A SANDBOX (cutbox-rows.mjs): the forced cells as the released guide's own fill.sh prints them over the translation 7a2e11292c69e55b… (all of the seat's roots in one cut). By AI agents, Wed Nov 11 2026. No macro, syntax, notation, axiom, sorry.
-/
import Derived.Test.Qxb6628593aChecked
import GoSem.Claim
import GoSem.ClaimJoined
import GoSem.ClaimMapViews
import Derived.JoinedTies
import Derived.KernelRfl
namespace Go.Proofs.Qxb6628593a
/- THE CELL 'sum', in the pinned program and in every row, IS THE sha256 OF THE DUMP (.gsa) THAT Qxb6628593aProg.lean LOADS. Nothing in Lean hashes anything: it is a label: what it is worth is what the hold of that sum in a sandbox is worth. -/
noncomputable def Try.pinned : Pinned := { name := "qxb6628593a", sum := "7a2e11292c69e55b29f9b4fefc2757ad9bd8e4169137bcb65b246b72cfcbb21f", checked := Try.checked }
namespace Rows
def none {H : Type} : Left H := { results := [], args := [] }

/-- 'zzlaws_internal_codex_b1.FnExecArgsExtraSplitsAtAnyCut': WHATEVER THE INPUT: true; the input reads as it did. -/
def fnExecArgsExtraSplitsAtAnyCutSpec : ChangeSpec := { name := "fnExecArgsExtraSplitsAtAnyCut", fn := fun _ => fun
  | [d1, d2, d3, d4, d5] => { results := [.lit (.bool true)], args := [d1, d2, d3, d4, d5] }
  | _ => none }
def fnExecArgsExtraSplitsAtAnyCutRow : OpenClaim := { program := "qxb6628593a", sum := "7a2e11292c69e55b29f9b4fefc2757ad9bd8e4169137bcb65b246b72cfcbb21f", func := "example.com/turnkeeper/turnkeeper/zzlaws_internal_codex_b1.FnExecArgsExtraSplitsAtAnyCut", spec := "fnExecArgsExtraSplitsAtAnyCut", apart := false }
def FnExecArgsExtraSplitsAtAnyCutSaid : Prop := fnExecArgsExtraSplitsAtAnyCutRow.holds Try.pinned (OpenSpec.ofChange fnExecArgsExtraSplitsAtAnyCutSpec)

/-- ITS FALSE NEIGHBOUR: 'it returns false'. Refute it at one input. -/
def fnExecArgsExtraSplitsAtAnyCutWrong : ChangeSpec := { name := "fnExecArgsExtraSplitsAtAnyCut", fn := fun _ => fun
  | [d1, d2, d3, d4, d5] => { results := [.lit (.bool false)], args := [d1, d2, d3, d4, d5] }
  | _ => none }
def FnExecArgsExtraSplitsAtAnyCutWrongFalsely : Prop := fnExecArgsExtraSplitsAtAnyCutRow.holds Try.pinned (OpenSpec.ofChange fnExecArgsExtraSplitsAtAnyCutWrong)

/-- 'zzlaws_internal_codex_b1.FnExecArgsThreadResumesJustBeforeTheDash': WHATEVER THE INPUT: true; the input reads as it did. -/
def fnExecArgsThreadResumesJustBeforeTheDashSpec : ChangeSpec := { name := "fnExecArgsThreadResumesJustBeforeTheDash", fn := fun _ => fun
  | [d1, d2, d3, d4] => { results := [.lit (.bool true)], args := [d1, d2, d3, d4] }
  | _ => none }
def fnExecArgsThreadResumesJustBeforeTheDashRow : OpenClaim := { program := "qxb6628593a", sum := "7a2e11292c69e55b29f9b4fefc2757ad9bd8e4169137bcb65b246b72cfcbb21f", func := "example.com/turnkeeper/turnkeeper/zzlaws_internal_codex_b1.FnExecArgsThreadResumesJustBeforeTheDash", spec := "fnExecArgsThreadResumesJustBeforeTheDash", apart := false }
def FnExecArgsThreadResumesJustBeforeTheDashSaid : Prop := fnExecArgsThreadResumesJustBeforeTheDashRow.holds Try.pinned (OpenSpec.ofChange fnExecArgsThreadResumesJustBeforeTheDashSpec)

/-- ITS FALSE NEIGHBOUR: 'it returns false'. Refute it at one input. -/
def fnExecArgsThreadResumesJustBeforeTheDashWrong : ChangeSpec := { name := "fnExecArgsThreadResumesJustBeforeTheDash", fn := fun _ => fun
  | [d1, d2, d3, d4] => { results := [.lit (.bool false)], args := [d1, d2, d3, d4] }
  | _ => none }
def FnExecArgsThreadResumesJustBeforeTheDashWrongFalsely : Prop := fnExecArgsThreadResumesJustBeforeTheDashRow.holds Try.pinned (OpenSpec.ofChange fnExecArgsThreadResumesJustBeforeTheDashWrong)

end Rows
end Go.Proofs.Qxb6628593a
