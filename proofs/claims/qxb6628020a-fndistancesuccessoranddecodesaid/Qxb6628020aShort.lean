import Derived.Test.Qxb6628020aDist
import Derived.Deep.QuietTactic
import Derived.BigQuiet
namespace Go.Proofs.Qxb6628020a
open Go.RowKit
set_option linter.unusedVariables false
set_option linter.unusedSimpArgs false

/-- The row at g holds the bytes l. -/
def Row (w : World) (g : Nat) (l : List Nat) : Prop := ∀ j, j < l.length → w.cell? ⟨g, j, none⟩ = some (.int .u8 (l.getD j 0 : Nat))

theorem lex_step (a b : List Nat) (k : Nat) (ha : k < a.length) (hb : k < b.length) :
    Plain.lex (a.drop k) (b.drop k) = if a.getD k 0 < b.getD k 0 then -1 else if b.getD k 0 < a.getD k 0 then 1 else Plain.lex (a.drop (k + 1)) (b.drop (k + 1)) := by
  rw [List.drop_eq_getElem_cons ha, List.drop_eq_getElem_cons hb]
  simp [Plain.lex, List.getD, ha, hb]

theorem ret_int {k : IntKind} {a b : Int} (h : a = b) : Ending.returned (.int k a) = .returned (.int k b) := by rw [h]
set_option maxHeartbeats 400000 in
theorem short_any (ga gb ca cb : Nat) (a b : List Nat) (ha : a.length ≤ 1000) (hb : b.length ≤ 1000) (w : World) (hra : Row w ga a) (hrb : Row w gb b) :
    Calls Try.prog 11 #[.slice (some ⟨ga, 0, none⟩) a.length ca, .slice (some ⟨gb, 0, none⟩) b.length cb] w fun e w' => e = .returned (.int .i64 (Plain.slex a b)) ∧ ∃ n, w' = w.drewN n := by
  by_cases h1 : a.length < b.length
  · have hx : Hid (Plain.slex a b = -1) := by unfold Plain.slex; rw [if_pos h1]; exact rfl
    go_enter Try.func11, Try.ntmps11
    go_wp2
    go_ret
    exact ⟨ret_int hx.out.symm, 0, rfl⟩
  by_cases h2 : b.length < a.length
  · have hx : Hid (Plain.slex a b = 1) := by unfold Plain.slex; rw [if_neg h1, if_pos h2]; exact rfl
    go_enter Try.func11, Try.ntmps11
    go_wp2
    go_ret
    exact ⟨ret_int hx.out.symm, 0, rfl⟩
  have hx : Hid (Plain.slex a b = Plain.lex a b) := by unfold Plain.slex; rw [if_neg h1, if_neg h2]; exact rfl
  have hlen1 : a.length ≤ b.length := by omega
  have hlen2 : b.length ≤ a.length := by omega
  clear h1 h2
  have HA : Hid (Row w ga a) := hra
  have HB : Hid (Row w gb b) := hrb
  clear hra hrb
  go_enter Try.func11, Try.ntmps11
  go_wp2
  go_loopw [5] (fun i wr => ∃ k : Nat, k ≤ a.length ∧ i = .int .i64 k ∧ Plain.lex (a.drop k) (b.drop k) = Plain.lex a b ∧ ∃ n, wr = w.drewN n) (fun i _ => a.length - (intOf i).toNat)
  case atStart => exact ⟨0, Nat.zero_le _, rfl, rfl, 0, rfl⟩
  case round =>
    obtain ⟨k, hk, rfl, hl, n, rfl⟩ := hrel
    have HL : Hid (Plain.lex (a.drop k) (b.drop k) = Plain.lex a b) := hl
    clear hl
    by_cases hlt : k < a.length
    · have c1 := HA.out k hlt
      have c2 := HB.out k (by omega)
      have hst := lex_step a b k hlt (by omega)
      rw [HL.out] at hst
      have HS := hst
      have i1 : (k : Int) < (a.length : Int) := by omega
      have i2 : (k : Int) < (b.length : Int) := by omega
      generalize a.getD k 0 = x at *
      generalize b.getD k 0 = y at *
      have HS : Hid (Plain.lex a b = if x < y then -1 else if y < x then 1 else Plain.lex (a.drop (k + 1)) (b.drop (k + 1))) := hst
      clear hst
      by_cases hxy : x < y
      · have hr : Hid (Plain.lex a b = -1) := by have := HS.out; rw [if_pos hxy] at this; exact this
        go_wp2
        go_quiet (fail)
        go_wp2
        go_ret
        exact ⟨ret_int (by rw [hx.out, hr.out]), _, by simp only [World.drewN_drewN]; rfl⟩
      by_cases hyx : y < x
      · have hr : Hid (Plain.lex a b = 1) := by have := HS.out; rw [if_neg hxy, if_pos hyx] at this; exact this
        go_wp2
        go_quiet (fail)
        go_wp2
        go_quiet (fail)
        go_wp2
        go_ret
        exact ⟨ret_int (by rw [hx.out, hr.out]), _, by simp only [World.drewN_drewN]; rfl⟩
      · have hr : Hid (Plain.lex (a.drop (k + 1)) (b.drop (k + 1)) = Plain.lex a b) := by have := HS.out; rw [if_neg hxy, if_neg hyx] at this; exact this.symm
        go_wp2
        go_quiet (fail)
        go_wp2
        go_quiet (fail)
        go_wp2
        go_roundw
        case rel => exact ⟨k + 1, by omega, by go_num, hr.out, _, rfl⟩
        case measure => simp [intOf]; omega
    · have hr : Hid (Plain.lex a b = 0) := by
        have := HL.out
        rw [List.drop_eq_nil_of_le (by omega), List.drop_eq_nil_of_le (by omega)] at this
        exact this.symm
      go_wp2
      go_ret
      exact ⟨ret_int (by rw [hx.out, hr.out]), _, rfl⟩
end Go.Proofs.Qxb6628020a
