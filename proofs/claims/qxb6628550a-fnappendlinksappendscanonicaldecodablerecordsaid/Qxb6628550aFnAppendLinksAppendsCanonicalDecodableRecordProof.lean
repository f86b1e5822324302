/-
  THE PROOF OF 'Rows.FnAppendLinksAppendsCanonicalDecodableRecordSaid': the frame after the guide's shell; the walk out of the callees' contracts.
-/
import Derived.Test.Qxb6628550aRecWalk
import Derived.ProofKit
import Derived.OpenShut
import Derived.ShutString
import Derived.ChangeOld
import Derived.Below
namespace Go.Proofs.Qxb6628550a.fnAppendLinksAppendsCanonicalDecodableRecord
open Go.ChangeShapes Go.WideShapes Go.ChangeAt Go.RowKit
open Go.ChangeMaps (open_string shut_string)
set_option linter.unusedVariables false

theorem own : ownKnob Try.prog.godebug = none := by kernel_rfl
theorem laidOut : laidOutB Try.prog = true := by kernel_rfl

/-- WHAT THE WALK IS TOLD OF A SLICE OF INTEGERS THAT CAME IN. -/
def IsRow (k : IntKind) (w : World) (a : Option Addr) (len cap : Nat) (zs : List Int) : Prop :=
  (a = none ∧ len = 0 ∧ cap = 0 ∧ zs = []) ∨
  ∃ x, a = some x ∧ len ≤ cap ∧ cap ≤ maxLen ∧ zs.length = cap ∧ (∀ i, i < zs.length → w.cell? (x.add i) = some (.int k (zs.getD i 0))) ∧ ∀ n ∈ zs, (Lit.int k n).wf = true

/-- The same, as the contracts are told it. -/
theorem urow_of (w : World) (a : Option Addr) (len cap : Nat) (zs : List Int) (h : IsRow .u64 w a len cap zs) :
    ∃ ps : List Nat, URow w a len ps ∧ len ≤ cap ∧ cap ≤ 9223372036854775807 ∧ (a = none → len = 0 ∧ cap = 0) ∧ ∀ b off, a = some ⟨b, off, none⟩ → 0 < len → b < w.heap.size := by
  rcases h with ⟨rfl, rfl, rfl, rfl⟩ | ⟨x, rfl, hl, hm, hz, hc, hw⟩
  · exact ⟨[], ⟨rfl, fun j => by simp, fun j hj => by omega⟩, by omega, by omega, fun _ => ⟨rfl, rfl⟩, fun b off e h0 => by omega⟩
  · have hcell : ∀ j, j < len → ∃ b off, x = ⟨b, off, none⟩ ∧ w.cell? ⟨b, off + j, none⟩ = some (.int .u64 (zs.getD j 0)) := by
      intro j hj
      obtain ⟨b, off, spot⟩ := x
      have hspot : spot = none := by simpa [Addr.add] using World.cell?_spot (hc 0 (by omega))
      subst hspot
      refine ⟨b, off, rfl, ?_⟩
      rw [← add_plain]; exact hc j (by omega)
    have hbd : ∀ j, 0 ≤ zs.getD j 0 ∧ zs.getD j 0 < 18446744073709551616 := by
      intro j
      by_cases hj : j < zs.length
      · have h1 := hw (zs.getD j 0) (by simp [List.getD, hj])
        have := bounds_u64 h1
        omega
      · simp [List.getD, hj]
    have hget : ∀ j, j < len → ((zs.take len).map Int.toNat).getD j 0 = (zs.getD j 0).toNat := by
      intro j hj
      simp [List.getD, hj, show j < zs.length by omega]
    unfold maxLen at hm
    refine ⟨(zs.take len).map Int.toNat, ⟨by simp; omega, fun j => ?_, fun j hj => ?_⟩, hl, hm, by simp, ?_⟩
    · by_cases hj : j < len
      · rw [hget j hj]; have := hbd j; omega
      · have : ((zs.take len).map Int.toNat)[j]? = none := List.getElem?_eq_none (by simp; omega)
        rw [List.getD, this]
        decide
    · obtain ⟨b, off, rfl, h1⟩ := hcell j hj
      refine ⟨b, off, rfl, ?_⟩
      rw [h1, hget j hj]
      have := hbd j
      rw [show (((zs.getD j 0).toNat : Nat) : Int) = zs.getD j 0 by omega]
    · intro b off e h0
      obtain ⟨b', off', e', h1⟩ := hcell 0 h0
      simp at e
      rw [e] at e'
      simp at e'
      obtain ⟨rfl, rfl⟩ := e'
      exact World.block_lt_of_cell? w _ h1

theorem brow_of (w : World) (a : Option Addr) (len cap : Nat) (zs : List Int) (h : IsRow .u8 w a len cap zs) :
    ∃ ps : List Nat, BRow w a len ps ∧ len ≤ cap ∧ cap ≤ 9223372036854775807 ∧ (a = none → len = 0) ∧ ∀ b off, a = some ⟨b, off, none⟩ → 0 < len → b < w.heap.size := by
  rcases h with ⟨rfl, rfl, rfl, rfl⟩ | ⟨x, rfl, hl, hm, hz, hc, hw⟩
  · exact ⟨[], ⟨rfl, fun j hj => by omega⟩, by omega, by omega, fun _ => rfl, fun b off e h0 => by omega⟩
  · have hcell : ∀ j, j < len → ∃ b off, x = ⟨b, off, none⟩ ∧ w.cell? ⟨b, off + j, none⟩ = some (.int .u8 (zs.getD j 0)) := by
      intro j hj
      obtain ⟨b, off, spot⟩ := x
      have hspot : spot = none := by simpa [Addr.add] using World.cell?_spot (hc 0 (by omega))
      subst hspot
      refine ⟨b, off, rfl, ?_⟩
      rw [← add_plain]; exact hc j (by omega)
    have hbd : ∀ j, 0 ≤ zs.getD j 0 ∧ zs.getD j 0 < 256 := by
      intro j
      by_cases hj : j < zs.length
      · have h1 := hw (zs.getD j 0) (by simp [List.getD, hj])
        have := bounds_u8 h1
        omega
      · simp [List.getD, hj]
    have hget : ∀ j, j < len → ((zs.take len).map Int.toNat).getD j 0 = (zs.getD j 0).toNat := by
      intro j hj
      simp [List.getD, hj, show j < zs.length by omega]
    unfold maxLen at hm
    refine ⟨(zs.take len).map Int.toNat, ⟨by simp; omega, fun j hj => ?_⟩, hl, hm, by simp, ?_⟩
    · obtain ⟨b, off, rfl, h1⟩ := hcell j hj
      refine ⟨b, off, rfl, ?_⟩
      rw [h1, hget j hj]
      have := hbd j
      rw [show (((zs.getD j 0).toNat : Nat) : Int) = zs.getD j 0 by omega]
    · intro b off e h0
      obtain ⟨b', off', e', h1⟩ := hcell 0 h0
      simp at e
      rw [e] at e'
      simp at e'
      obtain ⟨rfl, rfl⟩ := e'
      exact World.block_lt_of_cell? w _ h1

/-! ### STEP 1: THE WALK -/
set_option maxRecDepth 20000 in
/-- One of the lists is too long: true. -/
theorem walk_out (base : Nat) (a0 a : Option Addr) (n c m d : Nat) (more : Bool) (w : World) (hn : n ≤ 9223372036854775807) (hm : m ≤ 9223372036854775807) (h : 524288 < n ∨ 65536 < m) :
    Calls Try.prog 3 #[.slice a0 n c, .int .u64 base, .slice a m d, .bool more] w fun e w' => e = .returned (.bool true) ∧ Below w.heap.size w w' := by
  have H := hid h
  clear h
  go_enter Try.func3, Try.ntmps3
  go_wp2_with fail
  refine (zzRec_any base a0 a n c m d more hn hm _).mono ?_
  rintro e w1 ⟨⟨b, rfl⟩, hw⟩
  subst hw
  cases b with
  | false =>
    go_wp2
    go_ret
    exact ⟨rfl, Below.refl _ _⟩
  | true =>
  by_cases h1 : 524288 < n
  · go_wp2
    go_ret
    exact ⟨rfl, Below.refl _ _⟩
  · have h2 : 65536 < m := by have := H.out; omega
    go_wp2
    go_ret
    exact ⟨rfl, Below.refl _ _⟩

theorem walk (a0 : Option Addr) (len0 cap0 : Nat) (z0 : List Int) (a1 : Int) (a2 : Option Addr) (len2 cap2 : Nat) (z2 : List Int) (a3 : Bool) (w : World) (w0 : IsRow .u8 w a0 len0 cap0 z0) (w1 : (Lit.int .u64 a1).wf = true) (w2 : IsRow .u64 w a2 len2 cap2 z2) :
    Calls Try.prog 3 #[.slice a0 len0 cap0, .int .u64 a1, .slice a2 len2 cap2, .bool a3] w fun e w' => e = .returned (.bool true) ∧ Below w.heap.size w w' := by
  have b1 := bounds_u64 w1
  obtain ⟨ps, hp, hnc, hcm, hnone, hlt⟩ := urow_of w a2 len2 cap2 z2 w2
  obtain ⟨l, hl, hnc0, hcm0, hnone0, hlt0⟩ := brow_of w a0 len0 cap0 z0 w0
  obtain ⟨base, rfl⟩ : ∃ m : Nat, a1 = m := ⟨a1.toNat, by omega⟩
  by_cases h : 524288 < len0 ∨ 65536 < len2
  · exact walk_out base a0 a2 len0 cap0 len2 cap2 a3 w (by omega) (by omega) h
  · exact rec_in base len0 cap0 len2 cap2 a0 l a2 ps a3 w (by omega) (by omega) (by omega) hl hnone0 hlt0 hp hlt

/-! ### THE ROW's STEP: WRITTEN OUT: LEAVE IT -/
set_option maxRecDepth 100000 in
theorem lifted (os : Os) (started : os.Started) (H : Type) (enc : TypeId × Value → H) :
    ReturnsInHanded {} Try.checked os 3 .any (Rows.fnAppendLinksAppendsCanonicalDecodableRecordSpec.pre6 enc Try.prog Try.f3 Rows.fnAppendLinksAppendsCanonicalDecodableRecordRow.domain false) (Rows.fnAppendLinksAppendsCanonicalDecodableRecordSpec.post enc Try.prog Try.f3 false true false false) := by
  refine returnsInHanded_of_change (C := Try.checked) own started (by kernel_rfl) Try.func3
    (ChangeSpec.witness6 (enc := enc) (C := Try.checked) false ⟨#[], #[.slice none 0 0, .int .u64 0, .slice none 0 0, .bool false], []⟩ 8 (by kernel_rfl) (by kernel_rfl) (by kernel_rfl) (by kernel_rfl)) ?_
  intro W base args ds gs before hval0 hW hcnd _
  have hval : ∀ (j : Nat) t v, Try.f3.params[j]? = some t → args[j]? = some v → Value.okWide Try.prog W .any base t v := hval0
  have hW' := hW
  obtain ⟨p, q, hA0, hV, rfl, hfz, hnd⟩ := hW
  have hA : DataW.TrodAll enc Try.prog W 0 (fun _ => true) true Try.f3.params.toList args.toList ds p := hA0
  rw [Try.params3] at hA hval
  obtain ⟨v0, vs0, d0, ds0, p0, q0, hargs, rfl, rfl, h0, r0⟩ := trodAll_cons hA
  obtain ⟨v1, vs1, d1, ds1, p1, q1, rfl, rfl, rfl, h1, r1⟩ := trodAll_cons r0
  obtain ⟨v2, vs2, d2, ds2, p2, q2, rfl, rfl, rfl, h2, r2⟩ := trodAll_cons r1
  obtain ⟨v3, vs3, d3, ds3, p3, q3, rfl, rfl, rfl, h3, r3⟩ := trodAll_cons r2
  obtain ⟨rfl, rfl, rfl⟩ := trodAll_nil r3
  obtain rfl : args = #[v0, v1, v2, v3] := by cases args; simp_all
  obtain ⟨rfl, rfl⟩ := trodVars_none hV
  obtain ⟨a0, len0, cap0, rfl⟩ := okWide_slice Try.underlying22 (hval 0 22 v0 rfl rfl)
  have k0 := h0
  have lt0 : ∀ x ∈ p0, x.block < W.heap.size := by obtain ⟨m, hm⟩ := k0; exact DataW.trod_lt m _ _ _ hm
  obtain ⟨z0, w0⟩ : ∃ zs, IsRow .u8 W a0 len0 cap0 zs := by
    obtain ⟨fuel, hf⟩ := h0
    rcases open_ints Try.underlying22 Try.underlying5 (by kernel_rfl) hf with ⟨hcs, _⟩ | ⟨x, l, c, zs, hcs, _, hl, hm, hz, _, hcell, hwz⟩
    · simp [Value.cells] at hcs
      obtain ⟨rfl, rfl, rfl⟩ := hcs
      exact ⟨[], .inl ⟨rfl, rfl, rfl, rfl⟩⟩
    · simp [Value.cells] at hcs
      obtain ⟨rfl, rfl, rfl⟩ := hcs
      exact ⟨zs, .inr ⟨_, rfl, hl, hm, by simpa using hz, hcell, hwz⟩⟩
  obtain ⟨a1, rfl, rfl, rfl, w1⟩ := open_int Try.underlying23 (hval 1 23 v1 rfl rfl) h1
  obtain ⟨a2, len2, cap2, rfl⟩ := okWide_slice Try.underlying24 (hval 2 24 v2 rfl rfl)
  have k2 := h2
  have lt2 : ∀ x ∈ p2, x.block < W.heap.size := by obtain ⟨m, hm⟩ := k2; exact DataW.trod_lt m _ _ _ hm
  obtain ⟨z2, w2⟩ : ∃ zs, IsRow .u64 W a2 len2 cap2 zs := by
    obtain ⟨fuel, hf⟩ := h2
    rcases open_ints Try.underlying24 Try.underlying23 (by kernel_rfl) hf with ⟨hcs, _⟩ | ⟨x, l, c, zs, hcs, _, hl, hm, hz, _, hcell, hwz⟩
    · simp [Value.cells] at hcs
      obtain ⟨rfl, rfl, rfl⟩ := hcs
      exact ⟨[], .inl ⟨rfl, rfl, rfl, rfl⟩⟩
    · simp [Value.cells] at hcs
      obtain ⟨rfl, rfl, rfl⟩ := hcs
      exact ⟨zs, .inr ⟨_, rfl, hl, hm, by simpa using hz, hcell, hwz⟩⟩
  obtain ⟨a3, rfl, rfl, rfl⟩ := open_bool Try.underlying4 (hval 3 4 v3 rfl rfl) h3
  clear hA0 hval0
  refine (walk a0 len0 cap0 z0 a1 a2 len2 cap2 z2 a3 W w0 w1 w2).mono fun e W' ⟨he, bel⟩ => ?_
  subst he
  exact ⟨_, rfl, _, _, _, [], _, [], hW', trodAll_mk1 (shut_bool Try.underlying4 _), (trodAll_cons_mk (Below.trod laidOut (by kernel_rfl) (of_decide_eq_true (by kernel_rfl)) k0 bel lt0) (trodAll_cons_mk (shut_int Try.underlying23 w1) (trodAll_cons_mk (Below.trod laidOut (by kernel_rfl) (of_decide_eq_true (by kernel_rfl)) k2 bel lt2) (trodAll_cons_mk (shut_bool Try.underlying4 _) trodAll_mk0)))), rfl, bel.frame _, fun h => by cases h⟩

theorem over : Rows.fnAppendLinksAppendsCanonicalDecodableRecordRow.holds Try.pinned (OpenSpec.ofChange Rows.fnAppendLinksAppendsCanonicalDecodableRecordSpec) :=
  OpenClaim.holds_of_wide 3 Try.f3 rfl rfl rfl rfl rfl rfl rfl ⟨rfl, rfl, rfl, rfl, rfl⟩ rfl rfl rfl rfl rfl (by kernel_rfl) Try.func3 (by kernel_rfl)
    (of_decide_eq_true (by kernel_rfl)) (by unfold Func.isWrapper; first | (rw [if_pos (by decide +kernel)]; kernel_rfl) | (rw [if_neg (by decide +kernel)]; exact ⟨rfl, rfl⟩))
    (fun os started H enc _ => lifted os started H enc)

/-- ████ THE STATEMENT ████ -/
theorem proved : Rows.FnAppendLinksAppendsCanonicalDecodableRecordSaid := over
#print axioms proved
end Go.Proofs.Qxb6628550a.fnAppendLinksAppendsCanonicalDecodableRecord
