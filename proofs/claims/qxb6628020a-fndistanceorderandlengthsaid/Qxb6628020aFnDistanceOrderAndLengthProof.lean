/-
  THE PROOF OF 'Rows.FnDistanceOrderAndLengthSaid': the frame after the guide's template, ending limb by limb with 'Below'; the walk out of the callees' contracts.
-/
import Derived.Test.Qxb6628020aReads
import Derived.Test.Qxb6628020aLen
import Derived.ProofKit
import Derived.OpenShut
import Derived.ShutString
import Derived.ChangeOld
namespace Go.Proofs.Qxb6628020a.fnDistanceOrderAndLength
open Go.ChangeShapes Go.WideShapes Go.ChangeAt Go.RowKit
set_option linter.unusedVariables false

theorem own : ownKnob Try.prog.godebug = none := by kernel_rfl

/-! ### STEP 1: THE WALK -/
theorem walk_neg (a0 : Int) (a1 : Int) (h : a0 < 0 ∨ a1 < 0) (w : World) :
    Calls Try.prog 4 #[.int .i64 a0, .int .i64 a1] w fun e w' => e = .returned (.bool true) ∧ Below w.heap.size w w' := by
  by_cases h0 : a0 < 0
  · go_enter Try.func4, Try.ntmps4
    go_wp2
    go_ret
    exact ⟨rfl, Below.refl _ _⟩
  · have h1 : a1 < 0 := by omega
    go_enter Try.func4, Try.ntmps4
    go_wp2
    go_ret
    exact ⟨rfl, Below.refl _ _⟩

theorem row_of_own {w : World} {base g n cap : Nat} {l : List Nat} (h : w.ownsRow base 5 1 (.slice (some ⟨g, 0, none⟩) n cap) n (bs l)) (hn : n = l.length) : Row w g l := by
  subst hn
  intro j hj
  rw [h.cellAt j (by omega)]
  exact bs_get l j hj
theorem row_below {B : Nat} {w w' : World} {g : Nat} {l : List Nat} (h : Row w g l) (hb : Below B w w') (hg : g < B) : Row w' g l :=
  fun j hj => (hb.cell (p := ⟨g, j, none⟩) hg).trans (h j hj)

set_option maxHeartbeats 400000 in
theorem walk_pos (D1 D2 : Nat) (h1 : D1 < 9223372036854775808) (h2 : D2 < 9223372036854775808) (w : World) :
    Calls Try.prog 4 #[.int .i64 D1, .int .i64 D2] w fun e w' => e = .returned (.bool true) ∧ Below w.heap.size w w' := by
  have hs : Hid (Plain.slex (Plain.enc D1) (Plain.enc D2) = Plain.cmpN D1 D2) := Plain.enc_slex D1 D2 (by omega) (by omega)
  have l1 := (Plain.enc_len D1).2
  have l2 := (Plain.enc_len D2).2
  go_enter Try.func4, Try.ntmps4
  go_wp2_with fail
  refine (distance_any D1 h1 _).mono ?_
  rintro e w1 ⟨g1, c1, rfl, ho1, hb1⟩
  go_wp2_with fail
  refine (distance_any D2 h2 _).mono ?_
  rintro e w2 ⟨g2, c2, rfl, ho2, hb2⟩
  go_wp2_with fail
  refine (lenModel_any D1 h1 _).mono ?_
  rintro e w3 ⟨rfl, hw3⟩
  subst hw3
  go_wp2_with fail
  refine (lenModel_any D2 h2 _).mono ?_
  rintro e w4 ⟨rfl, hw4⟩
  subst hw4
  have hg1 := (own_shape ho1 (by have := (Plain.enc_len D1).1; omega))
  obtain ⟨g1', c1', hv1, -, hlt1⟩ := hg1
  have hr1 : Row w1 g1 (Plain.enc D1) := row_of_own ho1 rfl
  have hgg : g1 < w1.heap.size := by simp at hv1; omega
  have hr1' : Row _ g1 (Plain.enc D1) := row_below hr1 hb2 hgg
  have hr2 : Row _ g2 (Plain.enc D2) := row_of_own ho2 rfl
  have hfin := hb1.trans (hb2.mono hb1.size)
  have K1 : Hid _ := hr1'
  have K2 : Hid _ := hr2
  have K3 : Hid _ := hfin
  clear hr1 hr1' hr2 hfin hv1 ho1 ho2 hb1 hb2
  rcases Nat.lt_trichotomy D1 D2 with hc | hc | hc
  · have hx : Hid (Plain.cmpN D1 D2 = -1) := by show _ = _; unfold Plain.cmpN; rw [if_pos hc]
    go_wp2_with fail
    refine (short_any g1 g2 c1 c2 _ _ (by omega) (by omega) _ K1.out K2.out).mono ?_
    rintro e w5 ⟨rfl, n, rfl⟩
    rw [hs.out, hx.out]
    go_wp2
    go_ret
    exact ⟨rfl, below_drewN K3.out n⟩
  · have hx : Hid (Plain.cmpN D1 D2 = 0) := by show _ = _; unfold Plain.cmpN; rw [if_neg (by omega), if_neg (by omega)]
    have hn1 : ¬ (D1 : Int) < (D2 : Int) := by omega
    have hn2 : ¬ (D2 : Int) < (D1 : Int) := by omega
    have HC : Hid (D1 = D2) := hc
    clear hc
    go_wp2_with fail
    refine (short_any g1 g2 c1 c2 _ _ (by omega) (by omega) _ K1.out K2.out).mono ?_
    rintro e w5 ⟨rfl, n, rfl⟩
    rw [hs.out, hx.out]
    go_wp2
    go_ret
    exact ⟨rfl, below_drewN K3.out n⟩
  · have hx : Hid (Plain.cmpN D1 D2 = 1) := by show _ = _; unfold Plain.cmpN; rw [if_neg (by omega), if_pos hc]
    go_wp2_with fail
    refine (short_any g1 g2 c1 c2 _ _ (by omega) (by omega) _ K1.out K2.out).mono ?_
    rintro e w5 ⟨rfl, n, rfl⟩
    rw [hs.out, hx.out]
    go_wp2
    go_ret
    exact ⟨rfl, below_drewN K3.out n⟩

/-! ### THE ROW's STEP: WRITTEN OUT: LEAVE IT -/
theorem walk (a0 : Int) (a1 : Int) (w0 : (Lit.int .i64 a0).wf = true) (w1 : (Lit.int .i64 a1).wf = true) (w : World) :
    Calls Try.prog 4 #[.int .i64 a0, .int .i64 a1] w fun e w' => e = .returned (.bool true) ∧ Below w.heap.size w w' := by
  by_cases h : a0 < 0 ∨ a1 < 0
  · exact walk_neg a0 a1 h w
  · have b0 := bounds_i64 w0
    have b1 := bounds_i64 w1
    obtain ⟨D1, rfl⟩ : ∃ n : Nat, a0 = n := ⟨a0.toNat, by omega⟩
    obtain ⟨D2, rfl⟩ : ∃ n : Nat, a1 = n := ⟨a1.toNat, by omega⟩
    exact walk_pos D1 D2 (by omega) (by omega) w

set_option maxRecDepth 100000 in
theorem lifted (os : Os) (started : os.Started) (H : Type) (enc : TypeId × Value → H) :
    ReturnsInHanded {} Try.checked os 4 .any (Rows.fnDistanceOrderAndLengthSpec.pre6 enc Try.prog Try.f4 Rows.fnDistanceOrderAndLengthRow.domain false) (Rows.fnDistanceOrderAndLengthSpec.post enc Try.prog Try.f4 false true false false) := by
  refine returnsInHanded_of_change (C := Try.checked) own started (by kernel_rfl) Try.func4
    (ChangeSpec.witness6 (enc := enc) (C := Try.checked) false ⟨#[], #[.int .i64 0, .int .i64 0], []⟩ 8 (by kernel_rfl) (by kernel_rfl) (by kernel_rfl) (by kernel_rfl)) ?_
  intro W base args ds gs before hval0 hW hcnd _
  have hval : ∀ (j : Nat) t v, Try.f4.params[j]? = some t → args[j]? = some v → Value.okWide Try.prog W .any base t v := hval0
  have hW' := hW
  obtain ⟨p, q, hA0, hV, rfl, hfz, hnd⟩ := hW
  have hA : DataW.TrodAll enc Try.prog W 0 (fun _ => true) true Try.f4.params.toList args.toList ds p := hA0
  rw [Try.params4] at hA hval
  obtain ⟨v0, vs0, d0, ds0, p0, q0, hargs, rfl, rfl, h0, r0⟩ := trodAll_cons hA
  obtain ⟨v1, vs1, d1, ds1, p1, q1, rfl, rfl, rfl, h1, r1⟩ := trodAll_cons r0
  obtain ⟨rfl, rfl, rfl⟩ := trodAll_nil r1
  obtain rfl : args = #[v0, v1] := by cases args; simp_all
  obtain ⟨rfl, rfl⟩ := trodVars_none hV
  obtain ⟨a0, rfl, rfl, rfl, w0⟩ := open_int Try.underlying3 (hval 0 3 v0 rfl rfl) h0
  obtain ⟨a1, rfl, rfl, rfl, w1⟩ := open_int Try.underlying3 (hval 1 3 v1 rfl rfl) h1
  clear hA0 hval0
  refine (walk a0 a1 w0 w1 W).mono fun e W' ⟨he, bel⟩ => ?_
  subst he
  exact ⟨_, rfl, _, _, _, [], _, [], hW', trodAll_mk1 (shut_bool Try.underlying4 _), (trodAll_cons_mk (shut_int Try.underlying3 w0) (trodAll_cons_mk (shut_int Try.underlying3 w1) trodAll_mk0)), rfl, bel.frame _, fun h => by cases h⟩

theorem over : Rows.fnDistanceOrderAndLengthRow.holds Try.pinned (OpenSpec.ofChange Rows.fnDistanceOrderAndLengthSpec) :=
  OpenClaim.holds_of_wide 4 Try.f4 rfl rfl rfl rfl rfl rfl rfl ⟨rfl, rfl, rfl, rfl, rfl⟩ rfl rfl rfl rfl rfl (by kernel_rfl) Try.func4 (by kernel_rfl)
    (of_decide_eq_true (by kernel_rfl)) (by unfold Func.isWrapper; first | (rw [if_pos (by decide +kernel)]; kernel_rfl) | (rw [if_neg (by decide +kernel)]; exact ⟨rfl, rfl⟩))
    (fun os started H enc _ => lifted os started H enc)

/-- ████ THE STATEMENT ████ -/
theorem proved : Rows.FnDistanceOrderAndLengthSaid :=
  over
#print axioms proved
end Go.Proofs.Qxb6628020a.fnDistanceOrderAndLength
