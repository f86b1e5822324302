import Derived.Test.Qxb6628020aRows
import Derived.Test.Qxb6628020aPlain
import Derived.WalkKit
import Derived.WalkSpells
import Derived.WalkLawsBesides
namespace Go.Proofs.Qxb6628020a
open Go.RowKit

set_option maxHeartbeats 400000 in
theorem lenModel_any (D : Nat) (hD : D < 9223372036854775808) (w : World) :
    Calls Try.prog 10 #[.int .i64 D] w fun e w' => e = .returned (.int .i64 ((Plain.enc D).length : Nat)) ∧ w' = w := by
  go_enter Try.func10, Try.ntmps10
  go_wp2
  go_loop [4, 5] (fun b k => ∃ j : Nat, j ≤ 8 ∧ Plain.base j ≤ D ∧ k = .int .i64 ((j : Int) + 1) ∧ b = .int .u64 (Plain.base j)) (fun _ k => 10 - (intOf k).toNat)
  case atStart => exact ⟨0, by omega, Nat.zero_le _, rfl, rfl⟩
  case round =>
    obtain ⟨j, hj, hb, rfl, rfl⟩ := hrel
    have h9 := Plain.base_le (j + 1) (by omega)
    have e1 : Hid (Plain.base (j + 1) = (Plain.base j + 1) * 128) := rfl
    have h9' : (Plain.base j + 1) * 128 ≤ 9295997013522923648 := by rw [← e1.out]; exact h9
    clear h9
    go_wp2
    · have hlt : (D : Int) < ((Plain.base j : Nat) + 1) * 128 := by assumption
      have hl := Plain.enc_len_eq D j hj hb (by rw [e1.out]; omega)
      go_ret
      exact ⟨by rw [hl]; rfl, rfl⟩
    · have hge : ((Plain.base j : Nat) + 1) * 128 ≤ (D : Int) := by assumption
      have hb' : Plain.base (j + 1) ≤ D := by rw [e1.out]; omega
      have hj8 : j ≠ 8 := by
        intro e; subst e
        have h9 : Plain.base (8 + 1) = 9295997013522923648 := Plain.base_nine
        omega
      go_round
      case rel => exact ⟨j + 1, by omega, hb', by go_num, by rw [e1.out]; go_num⟩
      case measure => simp [intOf]; omega
end Go.Proofs.Qxb6628020a
