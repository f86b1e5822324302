/-
  THE PROOF OF 'Rows.FnExecArgsThreadResumesJustBeforeTheDashSaid': the frame after the guide's template, typed for a slice of strings; the walk out of the callees' contracts.
-/
import Derived.Test.Qxb6628593aThread
import Derived.ProofKit
import Derived.OpenShut
import Derived.ShutString
import Derived.ChangeOld
import Derived.SliceStrings
namespace Go.Proofs.Qxb6628593a.fnExecArgsThreadResumesJustBeforeTheDash
open Go.ChangeShapes Go.WideShapes Go.ChangeAt Go.RowKit
open Go.ChangeMaps (open_string shut_string)
set_option linter.unusedVariables false

theorem own : ownKnob Try.prog.godebug = none := by kernel_rfl
theorem laidOut : laidOutB Try.prog = true := by kernel_rfl

set_option maxRecDepth 20000 in
/-- One of the lengths is over its bound: true at once. -/
theorem thread_long (x0 x1 : ByteArray) (a : Option Addr) (n c : Nat) (ss : List ByteArray) (x3 : ByteArray) (w : World) (hs : SRow w a n ss) (hn : n ≤ 9223372036854775807)
    (hl : ¬ (x0.size ≤ 1048576 ∧ x1.size ≤ 1048576 ∧ x3.size ≤ 1048576 ∧ n ≤ 65536)) :
    Calls Try.prog 4 #[.string x0, .string x1, .slice a n c, .string x3] w fun e w' => e = .returned (.bool true) ∧ Below w.heap.size w w' := by
  have H := hid hs
  have HL := hid hl
  clear hs hl
  go_enter Try.func4, Try.ntmps4
  go_wp2_with fail
  refine (zzThread_any x0 x1 x3 a n c ss hn _ H.out).mono ?_
  rintro e w1 ⟨⟨b, rfl⟩, hw⟩
  subst hw
  cases b with
  | false =>
    go_wp2
    go_ret
    exact ⟨rfl, Below.refl _ _⟩
  | true =>
  by_cases c0 : x0.size ≤ 1048576
  · by_cases c1 : x1.size ≤ 1048576
    · by_cases c3 : x3.size ≤ 1048576
      · have c6 : ¬ n ≤ 65536 := fun hc => HL.out ⟨c0, c1, c3, hc⟩
        go_wp2
        go_ret
        exact ⟨rfl, Below.refl _ _⟩
      · go_wp2
        go_ret
        exact ⟨rfl, Below.refl _ _⟩
    · go_wp2
      go_ret
      exact ⟨rfl, Below.refl _ _⟩
  · go_wp2
    go_ret
    exact ⟨rfl, Below.refl _ _⟩

theorem walk (x0 x1 : ByteArray) (a : Option Addr) (n c : Nat) (ss : List ByteArray) (x3 : ByteArray) (w : World) (hs : SRow w a n ss) (hnone : a = none → n = 0 ∧ c = 0) (hlt : ∀ b off, a = some ⟨b, off, none⟩ → 0 < n → b < w.heap.size) (hnc : n ≤ c) (hcm : c ≤ 9223372036854775807) :
    Calls Try.prog 4 #[.string x0, .string x1, .slice a n c, .string x3] w fun e w' => e = .returned (.bool true) ∧ Below w.heap.size w w' := by
  by_cases hl : x0.size ≤ 1048576 ∧ x1.size ≤ 1048576 ∧ x3.size ≤ 1048576 ∧ n ≤ 65536
  · obtain ⟨l0, l1, l3, ln⟩ := hl
    exact thread_in x0 x1 x3 a n c ss w hs hnone hlt hnc hcm ln l0 l1 l3
  · exact thread_long x0 x1 a n c ss x3 w hs (by omega) hl

set_option maxRecDepth 100000 in
theorem lifted (os : Os) (started : os.Started) (H : Type) (enc : TypeId × Value → H) :
    ReturnsInHanded {} Try.checked os 4 .any (Rows.fnExecArgsThreadResumesJustBeforeTheDashSpec.pre6 enc Try.prog Try.f4 Rows.fnExecArgsThreadResumesJustBeforeTheDashRow.domain false) (Rows.fnExecArgsThreadResumesJustBeforeTheDashSpec.post enc Try.prog Try.f4 false true false false) := by
  refine returnsInHanded_of_change (C := Try.checked) own started (by kernel_rfl) Try.func4
    (ChangeSpec.witness6 (enc := enc) (C := Try.checked) false ⟨#[], #[.string ByteArray.empty, .string ByteArray.empty, .slice none 0 0, .string ByteArray.empty], []⟩ 8 (by kernel_rfl) (by kernel_rfl) (by kernel_rfl) (by kernel_rfl)) ?_
  intro W base args ds gs before hval0 hW hcnd _
  have hval : ∀ (j : Nat) t v, Try.f4.params[j]? = some t → args[j]? = some v → Value.okWide Try.prog W .any base t v := hval0
  have hW' := hW
  obtain ⟨p, q, hA0, hV, rfl, hfz, hnd⟩ := hW
  have hA : DataW.TrodAll enc Try.prog W 0 (fun _ => true) true Try.f4.params.toList args.toList ds p := hA0
  rw [Try.params4] at hA hval
  obtain ⟨v0, vs0, d0, ds0, p0, q0, hargs, rfl, rfl, h0, r0⟩ := trodAll_cons hA
  obtain ⟨v1, vs1, d1, ds1, p1, q1, rfl, rfl, rfl, h1, r1⟩ := trodAll_cons r0
  obtain ⟨v2, vs2, d2, ds2, p2, q2, rfl, rfl, rfl, h2, r2⟩ := trodAll_cons r1
  obtain ⟨v3, vs3, d3, ds3, p3, q3, rfl, rfl, rfl, h3, r3⟩ := trodAll_cons r2
  obtain ⟨rfl, rfl, rfl⟩ := trodAll_nil r3
  obtain rfl : args = #[v0, v1, v2, v3] := by cases args; simp_all
  obtain ⟨rfl, rfl⟩ := trodVars_none hV
  obtain ⟨x0, rfl, rfl, rfl, s0⟩ := open_string Try.underlying9 (hval 0 9 v0 rfl rfl) h0
  obtain ⟨x1, rfl, rfl, rfl, s1⟩ := open_string Try.underlying9 (hval 1 9 v1 rfl rfl) h1
  obtain ⟨a2, len2, cap2, rfl⟩ := okWide_slice Try.underlying22 (hval 2 22 v2 rfl rfl)
  have k2 := h2
  have lt2 : ∀ x ∈ p2, x.block < W.heap.size := by obtain ⟨m, hm⟩ := k2; exact DataW.trod_lt m _ _ _ hm
  obtain ⟨ss, hs, hnc, hcm, hnone⟩ : ∃ ss, SRow W a2 len2 ss ∧ len2 ≤ cap2 ∧ cap2 ≤ 9223372036854775807 ∧ (a2 = none → len2 = 0 ∧ cap2 = 0) := by
    obtain ⟨fuel, hf⟩ := h2
    rcases open_strings Try.underlying22 Try.underlying9 (by kernel_rfl) hf with ⟨hcs, _⟩ | ⟨x, l, c, ss, hcs, _, hl, hm, hz, _, hcell, hwz⟩
    · simp [Value.cells] at hcs
      obtain ⟨rfl, rfl, rfl⟩ := hcs
      exact ⟨[], ⟨rfl, fun j hj => by omega⟩, by omega, by omega, fun _ => ⟨rfl, rfl⟩⟩
    · simp [Value.cells] at hcs
      obtain ⟨rfl, rfl, rfl⟩ := hcs
      have hz' : ss.length = cap2 := by simpa using hz
      unfold maxLen at hm
      refine ⟨ss.take len2, ⟨by simp; omega, fun j hj => ?_⟩, hl, by omega, by simp⟩
      have hc := hcell j (by omega)
      obtain ⟨b, off, spot⟩ := x
      have hspot : spot = none := by simpa [Addr.add] using World.cell?_spot (hcell 0 (by omega))
      subst hspot
      refine ⟨b, off, rfl, ?_⟩
      rw [← add_plain, hc]
      simp [List.getD, hj]
  obtain ⟨x3, rfl, rfl, rfl, s3⟩ := open_string Try.underlying9 (hval 3 9 v3 rfl rfl) h3
  clear hA0 hval0
  have hlt : ∀ b off, a2 = some ⟨b, off, none⟩ → 0 < len2 → b < W.heap.size := by
    intro b off hb h0
    obtain ⟨b', off', hb', hc⟩ := hs.2 0 h0
    rw [hb] at hb'
    simp at hb'
    obtain ⟨rfl, rfl⟩ := hb'
    exact World.block_lt_of_cell? W _ hc
  refine (walk x0 x1 a2 len2 cap2 ss x3 W hs hnone hlt hnc hcm).mono fun e W' ⟨he, bel⟩ => ?_
  subst he
  exact ⟨_, rfl, _, _, _, [], _, [], hW', trodAll_mk1 (shut_bool Try.underlying4 _), (trodAll_cons_mk (shut_string Try.underlying9 s0) (trodAll_cons_mk (shut_string Try.underlying9 s1) (trodAll_cons_mk (Below.trod laidOut (by kernel_rfl) (of_decide_eq_true (by kernel_rfl)) k2 bel lt2) (trodAll_cons_mk (shut_string Try.underlying9 s3) trodAll_mk0)))), rfl, bel.frame _, fun h => by cases h⟩

theorem over : Rows.fnExecArgsThreadResumesJustBeforeTheDashRow.holds Try.pinned (OpenSpec.ofChange Rows.fnExecArgsThreadResumesJustBeforeTheDashSpec) :=
  OpenClaim.holds_of_wide 4 Try.f4 rfl rfl rfl rfl rfl rfl rfl ⟨rfl, rfl, rfl, rfl, rfl⟩ rfl rfl rfl rfl rfl (by kernel_rfl) Try.func4 (by kernel_rfl)
    (of_decide_eq_true (by kernel_rfl)) (by unfold Func.isWrapper; first | (rw [if_pos (by decide +kernel)]; kernel_rfl) | (rw [if_neg (by decide +kernel)]; exact ⟨rfl, rfl⟩))
    (fun os started H enc _ => lifted os started H enc)

theorem proved : Rows.FnExecArgsThreadResumesJustBeforeTheDashSaid := over
#print axioms proved
end Go.Proofs.Qxb6628593a.fnExecArgsThreadResumesJustBeforeTheDash
