/-
  No cell of these rows narrows 'for every input' (looked for: loops, veiled, ifaces, maps, wideKeys, modest, calm, conditions, laid).
  DERIVED. THE GIVEN ROWS OF THIS SEAT. 2 by the template 'for every input the law returns true; each argument reads behind the call as it read before'; 0 by the template 'total and deterministic' (their statements: Qxb6628550aTotals.lean).
  GIVEN WITH THE SEED: the statements are not yours to turn. If you find one false, say at which input.
  Laid BY PROGRAM, IN A SANDBOX (cutbox-rows.mjs): the forced cells as the released guide's own fill.sh prints them over the translation 1bbdb468379bf839… (all of the seat's roots in one cut). By AI agents, Wed Nov 11 2026. No macro, syntax, notation, axiom, sorry.
-/
import Derived.Test.Qxb6628550aChecked
import GoSem.Claim
import GoSem.ClaimJoined
import GoSem.ClaimMapViews
import Derived.JoinedTies
import Derived.KernelRfl
namespace Go.Proofs.Qxb6628550a
/- THE CELL 'sum', in the pinned program and in every row, IS THE sha256 OF THE DUMP (.gsa) THAT Qxb6628550aProg.lean LOADS. Nothing in Lean hashes anything: it is a label: what it is worth is what the hold of that sum in a sandbox is worth. -/
noncomputable def Try.pinned : Pinned := { name := "qxb6628550a", sum := "1bbdb468379bf839f8b4eab4434b19a814565d7c12fab41e44196f23054d74cb", checked := Try.checked }
namespace Rows
def none {H : Type} : Left H := { results := [], args := [] }

/-- 'zzlaws_internal_stream_b1.FnAppendLinksAppendsCanonicalDecodableRecord': WHATEVER THE INPUT: true; the input reads as it did. -/
def fnAppendLinksAppendsCanonicalDecodableRecordSpec : ChangeSpec := { name := "fnAppendLinksAppendsCanonicalDecodableRecord", fn := fun _ => fun
  | [d1, d2, d3, d4] => { results := [.lit (.bool true)], args := [d1, d2, d3, d4] }
  | _ => none }
def fnAppendLinksAppendsCanonicalDecodableRecordRow : OpenClaim := { program := "qxb6628550a", sum := "1bbdb468379bf839f8b4eab4434b19a814565d7c12fab41e44196f23054d74cb", func := "example.com/logweave/logweave/zzlaws_internal_stream_b1.FnAppendLinksAppendsCanonicalDecodableRecord", spec := "fnAppendLinksAppendsCanonicalDecodableRecord", apart := false }
def FnAppendLinksAppendsCanonicalDecodableRecordSaid : Prop := fnAppendLinksAppendsCanonicalDecodableRecordRow.holds Try.pinned (OpenSpec.ofChange fnAppendLinksAppendsCanonicalDecodableRecordSpec)

/-- ITS FALSE NEIGHBOUR: 'it returns false'. Refute it at one input. -/
def fnAppendLinksAppendsCanonicalDecodableRecordWrong : ChangeSpec := { name := "fnAppendLinksAppendsCanonicalDecodableRecord", fn := fun _ => fun
  | [d1, d2, d3, d4] => { results := [.lit (.bool false)], args := [d1, d2, d3, d4] }
  | _ => none }
def FnAppendLinksAppendsCanonicalDecodableRecordWrongFalsely : Prop := fnAppendLinksAppendsCanonicalDecodableRecordRow.holds Try.pinned (OpenSpec.ofChange fnAppendLinksAppendsCanonicalDecodableRecordWrong)

/-- 'zzlaws_internal_stream_b1.FnAppendLinksSplitsAtAnyCut': WHATEVER THE INPUT: true; the input reads as it did. -/
def fnAppendLinksSplitsAtAnyCutSpec : ChangeSpec := { name := "fnAppendLinksSplitsAtAnyCut", fn := fun _ => fun
  | [d1, d2, d3, d4] => { results := [.lit (.bool true)], args := [d1, d2, d3, d4] }
  | _ => none }
def fnAppendLinksSplitsAtAnyCutRow : OpenClaim := { program := "qxb6628550a", sum := "1bbdb468379bf839f8b4eab4434b19a814565d7c12fab41e44196f23054d74cb", func := "example.com/logweave/logweave/zzlaws_internal_stream_b1.FnAppendLinksSplitsAtAnyCut", spec := "fnAppendLinksSplitsAtAnyCut", apart := false }
def FnAppendLinksSplitsAtAnyCutSaid : Prop := fnAppendLinksSplitsAtAnyCutRow.holds Try.pinned (OpenSpec.ofChange fnAppendLinksSplitsAtAnyCutSpec)

/-- ITS FALSE NEIGHBOUR: 'it returns false'. Refute it at one input. -/
def fnAppendLinksSplitsAtAnyCutWrong : ChangeSpec := { name := "fnAppendLinksSplitsAtAnyCut", fn := fun _ => fun
  | [d1, d2, d3, d4] => { results := [.lit (.bool false)], args := [d1, d2, d3, d4] }
  | _ => none }
def FnAppendLinksSplitsAtAnyCutWrongFalsely : Prop := fnAppendLinksSplitsAtAnyCutRow.holds Try.pinned (OpenSpec.ofChange fnAppendLinksSplitsAtAnyCutWrong)

end Rows
end Go.Proofs.Qxb6628550a
