/-
  THE PROOF OF 'Rows.FnDistanceSuccessorAndDecodeSaid': the frame after the guide's template, ending limb by limb with 'Below'; the walk out of the callees' contracts.
-/
import Derived.Test.Qxb6628020aSucc
import Derived.ProofKit
import Derived.OpenShut
import Derived.ShutString
import Derived.ChangeOld
namespace Go.Proofs.Qxb6628020a.fnDistanceSuccessorAndDecode
open Go.ChangeShapes Go.WideShapes Go.ChangeAt Go.RowKit
set_option linter.unusedVariables false

theorem own : ownKnob Try.prog.godebug = none := by kernel_rfl

/-! ### STEP 1: THE WALK -/
theorem walk_out (a0 : Int) (h : a0 < 0 ∨ 9223372036854775807 ≤ a0) (w : World) :
    Calls Try.prog 3 #[.int .i64 a0] w fun e w' => e = .returned (.bool true) ∧ Below w.heap.size w w' := by
  by_cases h0 : a0 < 0
  · go_enter Try.func3, Try.ntmps3
    go_wp2
    go_ret
    exact ⟨rfl, Below.refl _ _⟩
  · have h1 : 9223372036854775807 ≤ a0 := by omega
    go_enter Try.func3, Try.ntmps3
    go_wp2
    go_ret
    exact ⟨rfl, Below.refl _ _⟩

set_option maxHeartbeats 400000 in
theorem walk_in (D : Nat) (h1 : D < 9223372036854775807) (w : World) :
    Calls Try.prog 3 #[.int .i64 D] w fun e w' => e = .returned (.bool true) ∧ Below w.heap.size w w' := by
  have l1 := (Plain.enc_len D).2
  have l2 := (Plain.enc_len (D + 1)).2
  go_enter Try.func3, Try.ntmps3
  go_wp2_with fail
  refine (distance_any D (by omega) _).mono ?_
  rintro e w1 ⟨g1, c1, rfl, ho1, hb1⟩
  go_wp2_with fail
  rw [show ((D : Int) + 1) = ((D + 1 : Nat) : Int) by omega]
  refine (distance_any (D + 1) (by omega) _).mono ?_
  rintro e w2 ⟨g2, c2, rfl, ho2, hb2⟩
  obtain ⟨g1', c1', hv1, -, hlt1⟩ := own_shape ho1 (by have := (Plain.enc_len D).1; omega)
  obtain ⟨g2', c2', hv2, -, hlt2⟩ := own_shape ho2 (by have := (Plain.enc_len (D + 1)).1; omega)
  have hgg : g1 < w1.heap.size := by simp at hv1; omega
  have hg2 : g2 < w2.heap.size := by simp at hv2; omega
  have hg1 : g1 < w2.heap.size := Nat.lt_of_lt_of_le hgg hb2.size
  have K1 : Hid (Row w2 g1 (Plain.enc D)) := row_keep (row_own ho1 rfl) hb2 hgg
  have K2 : Hid (Row w2 g2 (Plain.enc (D + 1))) := row_own ho2 rfl
  have K3 : Hid (Below w.heap.size w w2) := hb1.trans (hb2.mono hb1.size)
  have hsz := hb1.size
  have hsz2 := hb2.size
  clear hv1 hv2 ho1 ho2 hb1 hb2
  go_wp2_with fail
  refine (wf_any g1 c1 D _ K1.out).mono ?_
  rintro e w3 ⟨rfl, hw3⟩
  subst hw3
  go_wp2_with fail
  refine (wf_any g2 c2 (D + 1) _ K2.out).mono ?_
  rintro e w3 ⟨rfl, hw3⟩
  subst hw3
  go_wp2_with fail
  refine (dec_any g1 c1 D (by omega) _ K1.out).mono ?_
  rintro e w3 ⟨rfl, hw3⟩
  subst hw3
  go_wp2_with fail
  refine (succ_any g1 c1 D (by omega) _ hg1 K1.out).mono ?_
  rintro e w3 ⟨g3, c3, rfl, hr3, hb3⟩
  go_wp2_with fail
  refine (eq_any g2 g3 c2 c3 _ (by omega) _ (row_keep K2.out hb3 hg2) hr3).mono ?_
  rintro e w4 ⟨rfl, n, rfl⟩
  have K4 : Hid (Below w.heap.size w w3) := K3.out.trans (hb3.mono (by omega))
  go_wp2
  go_ret
  exact ⟨rfl, below_drewN K4.out n⟩

theorem walk (a0 : Int) (w0 : (Lit.int .i64 a0).wf = true) (w : World) :
    Calls Try.prog 3 #[.int .i64 a0] w fun e w' => e = .returned (.bool true) ∧ Below w.heap.size w w' := by
  by_cases h : a0 < 0 ∨ 9223372036854775807 ≤ a0
  · exact walk_out a0 h w
  · obtain ⟨D, rfl⟩ : ∃ n : Nat, a0 = n := ⟨a0.toNat, by omega⟩
    exact walk_in D (by omega) w

/-! ### THE ROW's STEP: WRITTEN OUT: LEAVE IT -/
set_option maxRecDepth 100000 in
theorem lifted (os : Os) (started : os.Started) (H : Type) (enc : TypeId × Value → H) :
    ReturnsInHanded {} Try.checked os 3 .any (Rows.fnDistanceSuccessorAndDecodeSpec.pre6 enc Try.prog Try.f3 Rows.fnDistanceSuccessorAndDecodeRow.domain false) (Rows.fnDistanceSuccessorAndDecodeSpec.post enc Try.prog Try.f3 false true false false) := by
  refine returnsInHanded_of_change (C := Try.checked) own started (by kernel_rfl) Try.func3
    (ChangeSpec.witness6 (enc := enc) (C := Try.checked) false ⟨#[], #[.int .i64 0], []⟩ 8 (by kernel_rfl) (by kernel_rfl) (by kernel_rfl) (by kernel_rfl)) ?_
  intro W base args ds gs before hval0 hW hcnd _
  have hval : ∀ (j : Nat) t v, Try.f3.params[j]? = some t → args[j]? = some v → Value.okWide Try.prog W .any base t v := hval0
  have hW' := hW
  obtain ⟨p, q, hA0, hV, rfl, hfz, hnd⟩ := hW
  have hA : DataW.TrodAll enc Try.prog W 0 (fun _ => true) true Try.f3.params.toList args.toList ds p := hA0
  rw [Try.params3] at hA hval
  obtain ⟨v0, vs0, d0, ds0, p0, q0, hargs, rfl, rfl, h0, r0⟩ := trodAll_cons hA
  obtain ⟨rfl, rfl, rfl⟩ := trodAll_nil r0
  obtain rfl : args = #[v0] := by cases args; simp_all
  obtain ⟨rfl, rfl⟩ := trodVars_none hV
  obtain ⟨a0, rfl, rfl, rfl, w0⟩ := open_int Try.underlying3 (hval 0 3 v0 rfl rfl) h0
  clear hA0 hval0
  refine (walk a0 w0 W).mono fun e W' ⟨he, bel⟩ => ?_
  subst he
  exact ⟨_, rfl, _, _, _, [], _, [], hW', trodAll_mk1 (shut_bool Try.underlying4 _), (trodAll_cons_mk (shut_int Try.underlying3 w0) trodAll_mk0), rfl, bel.frame _, fun h => by cases h⟩

theorem over : Rows.fnDistanceSuccessorAndDecodeRow.holds Try.pinned (OpenSpec.ofChange Rows.fnDistanceSuccessorAndDecodeSpec) :=
  OpenClaim.holds_of_wide 3 Try.f3 rfl rfl rfl rfl rfl rfl rfl ⟨rfl, rfl, rfl, rfl, rfl⟩ rfl rfl rfl rfl rfl (by kernel_rfl) Try.func3 (by kernel_rfl)
    (of_decide_eq_true (by kernel_rfl)) (by unfold Func.isWrapper; first | (rw [if_pos (by decide +kernel)]; kernel_rfl) | (rw [if_neg (by decide +kernel)]; exact ⟨rfl, rfl⟩))
    (fun os started H enc _ => lifted os started H enc)

/-- ████ THE STATEMENT ████ -/
theorem proved : Rows.FnDistanceSuccessorAndDecodeSaid :=
  over
#print axioms proved
end Go.Proofs.Qxb6628020a.fnDistanceSuccessorAndDecode
