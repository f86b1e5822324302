import Derived.Test.Qxb6628550aLinks
import Derived.Deep.QuietTactic
import Derived.BigQuiet
namespace Go.Proofs.Qxb6628550a
open Go.RowKit
set_option linter.unusedVariables false
set_option linter.unusedSimpArgs false

/-- The row at g holds the bytes l. -/
def Row (w : World) (g : Nat) (l : List Nat) : Prop := ∀ j, j < l.length → w.cell? ⟨g, j, none⟩ = some (.int .u8 (l.getD j 0 : Nat))

theorem u8_and127 (x : Nat) (h : x < 256) : bits .and .u8 (x : Int) 127 = (x : Int) % 128 := by
  have := u8_and_nat x 127 h (by omega)
  rw [show ((127 : Nat) : Int) = 127 from rfl] at this
  rw [this, nat_mask7]; omega

theorem drop_head (l : List Nat) (j z : Nat) (t : List Nat) (h : l.drop j = z :: t) : l.getD j 0 = z ∧ l.drop (j + 1) = t := by
  have hj : j < l.length := by
    have := congrArg List.length h
    simp at this; omega
  rw [List.drop_eq_getElem_cons hj] at h
  simp only [List.cons.injEq] at h
  exact ⟨by simp [List.getD, hj, h.1], h.2⟩
theorem join_nat (acc y i : Nat) (h1 : acc < 2 ^ (7 * i)) (h2 : acc + y * 2 ^ (7 * i) < 18446744073709551616) : bits .or .u64 (acc : Int) (IntKind.u64.wrap ((y : Int) * 2 ^ (7 * i))) = ((acc + y * 2 ^ (7 * i) : Nat) : Int) := by
  have e : ((y : Int) * 2 ^ (7 * i)) = ((y * 2 ^ (7 * i) : Nat) : Int) := by simp
  rw [e, IntKind.wrap_u64, Int.emod_eq_of_lt (by omega) (by omega), u64_or_nat _ _ (by omega) (by omega), Nat.or_comm, nat_join (7 * i) (y * 2 ^ (7 * i)) acc (Nat.mul_mod_left _ _) h1, Nat.add_comm]
theorem join_last (acc : Nat) (h1 : acc < 9223372036854775808) : bits .or .u64 (acc : Int) 9223372036854775808 = ((acc + 9223372036854775808 : Nat) : Int) := by
  have := u64_or_nat acc 9223372036854775808 (by omega) (by omega)
  rw [show ((9223372036854775808 : Nat) : Int) = 9223372036854775808 by omega] at this
  rw [this, Nat.or_comm, nat_join 63 9223372036854775808 acc (by omega) (by omega), Nat.add_comm]
theorem pow_step (i : Nat) : 2 ^ (7 * (i + 1)) = 2 ^ (7 * i) * 128 := by
  rw [show 7 * (i + 1) = 7 * i + 7 by omega, Nat.pow_add]
theorem step_acc (acc y i : Nat) (h : acc < 2 ^ (7 * i)) : acc + y % 128 * 2 ^ (7 * i) < 2 ^ (7 * (i + 1)) := by
  rw [pow_step]
  have h1 : y % 128 + 1 ≤ 128 := by omega
  have h2 := Nat.mul_le_mul_right (2 ^ (7 * i)) h1
  rw [Nat.add_mul, Nat.one_mul, Nat.mul_comm 128] at h2
  omega
theorem step_x (acc y i : Nat) : acc + y * 2 ^ (7 * i) = (acc + y % 128 * 2 ^ (7 * i)) + y / 128 * 2 ^ (7 * (i + 1)) := by
  rw [pow_step, Nat.mul_comm (2 ^ (7 * i)) 128, ← Nat.mul_assoc, Nat.add_assoc, ← Nat.add_mul]
  congr 2
  omega
theorem ret3 {a b : Int} {c d : Int} (h1 : a = c) (h2 : b = d) : Ending.returned (.tuple #[.int .u64 a, .int .i64 b, .bool true]) = .returned (.tuple #[.int .u64 c, .int .i64 d, .bool true]) := by rw [h1, h2]

set_option maxRecDepth 20000 in
set_option maxHeartbeats 800000 in
theorem read_any (g cap p x : Nat) (l rest : List Nat) (hx : x < 18446744073709551616) (hl : l.length ≤ 1152921504606846976) (hp : p ≤ l.length) (hd : l.drop p = Plain.uv x ++ rest) (w : World) (hr : Row w g l) :
    Calls Try.prog 8 #[.slice (some ⟨g, 0, none⟩) l.length cap, .int .i64 p] w fun e w' => e = .returned (.tuple #[.int .u64 x, .int .i64 ((p + (Plain.uv x).length : Nat) : Int), .bool true]) ∧ w' = w := by
  have HR := hid hr
  have HD := hid hd
  clear hr hd
  go_enter Try.func8, Try.ntmps8
  go_wp2
  go_loop [1, 7, 8, 9] (fun vp vx vs vi => ∃ i f acc y : Nat, i + f = 9 ∧ vp = .int .i64 ((p : Int) + i) ∧ vx = .int .u64 acc ∧ vs = .int .u64 (7 * (i : Int)) ∧ vi = .int .i64 i ∧ acc < 2 ^ (7 * i) ∧ x = acc + y * 2 ^ (7 * i) ∧ l.drop (p + i) = Plain.uvF f y ++ rest ∧ (Plain.uv x).length = i + (Plain.uvF f y).length ∧ (0 < i → 0 < y))
    (fun vp _ _ _ => l.length - (intOf vp).toNat)
  case atStart => exact ⟨0, 9, 0, x, rfl, by simp, rfl, rfl, rfl, by simp, by simp, HD.out, by simp [Plain.uv], by simp⟩
  case round =>
    obtain ⟨i, f, acc, y, hif, rfl, rfl, rfl, rfl, hacc, hxx, hdr, hln, hpos⟩ := hrel
    have hlt : p + i < l.length := by
      have h1 := congrArg List.length hdr
      have h2 := (Plain.uvF_len f y).1
      rw [List.length_append, List.length_drop] at h1
      omega
    have hc := HR.out (p + i) hlt
    have H1 := hid hacc
    have H2 := hid hxx
    have H3 := hid hdr
    have H4 := hid hln
    have H5 := hid hpos
    have H6 := hid hif
    have hi9 : i ≤ 9 := by omega
    clear hacc hxx hdr hln hpos hif
    by_cases e9 : i = 9
    · -- the tenth byte
      subst e9
      obtain rfl : f = 0 := by have := H6.out; omega
      have hy : y = 1 := by
        have h1 := H5.out (by omega)
        have h2 := H2.out
        omega
      subst hy
      have hz := (drop_head l (p + 9) 1 rest H3.out).1
      have hx2 : Hid (((acc + 9223372036854775808 : Nat) : Int) = (x : Int)) := by have := H2.out; unfold Hid; omega
      have hj := hid (join_last acc (by have := H1.out; omega))
      have hlen : Hid ((Plain.uv x).length = 10) := H4.out
      rw [hz] at hc
      clear hz H1 H2 H3 H5 H6 H4
      go_wp2
      go_ret3
      exact ⟨ret3 (hj.out.trans hx2.out) (by rw [hlen.out]; omega), rfl⟩
    · have e9' : ((i : Int) == 9) = false := beq_eq_false_iff_ne.2 (by omega)
      by_cases hzz : y < 128
      · -- the last byte, ahead of the tenth
        have hu := Plain.uvF_small f y hzz
        have h3 := H3.out
        rw [hu] at h3
        have hz := (drop_head l (p + i) y rest h3).1
        have hlen : Hid ((Plain.uv x).length = i + 1) := by have := H4.out; rw [hu] at this; exact this
        have hj := hid (join_nat acc y i H1.out (by rw [← H2.out]; exact hx))
        have hx2 : Hid (((acc + y * 2 ^ (7 * i) : Nat) : Int) = (x : Int)) := by unfold Hid; rw [← H2.out]
        rw [hz] at hc
        clear hz h3 hu
        by_cases hi0 : 0 < i
        · have hy0 := H5.out hi0
          clear H1 H2 H3 H5 H6 H4 e9
          go_wp2
          go_ret3
          exact ⟨ret3 (hj.out.trans hx2.out) (by rw [hlen.out]; omega), rfl⟩
        · clear H1 H2 H3 H5 H6 H4 e9
          go_wp2
          go_ret3
          exact ⟨ret3 (hj.out.trans hx2.out) (by rw [hlen.out]; omega), rfl⟩
      · -- a byte with the high bit
        obtain ⟨f', rfl⟩ : ∃ f', f = f' + 1 := ⟨f - 1, by have := H6.out; omega⟩
        have hu := Plain.uvF_big f' y (by omega)
        have h3 := H3.out
        rw [hu] at h3
        have hz := drop_head l (p + i) (128 + y % 128) _ h3
        have hd2 := hid hz.2
        have hlen : Hid ((Plain.uv x).length = i + 1 + (Plain.uvF f' (y / 128)).length) := by have := H4.out; rw [hu] at this; unfold Hid; simp at this; omega
        have hx2 : Hid (x = (acc + y % 128 * 2 ^ (7 * i)) + y / 128 * 2 ^ (7 * (i + 1))) := by unfold Hid; rw [← step_x]; exact H2.out
        have hj := hid (join_nat acc (y % 128) i H1.out (by have := hx2.out; omega))
        have ha := hid (step_acc acc y i H1.out)
        have h6 : Hid (i + 1 + f' = 9) := by have := H6.out; unfold Hid; omega
        have hb := u8_and127 (128 + y % 128) (by omega)
        rw [hz.1] at hc
        clear hz h3 hu H1 H2 H3 H5 H6 H4 e9
        obtain ⟨d, hd⟩ : ∃ d, d = y % 128 := ⟨_, rfl⟩
        have hd128 : d < 128 := by omega
        rw [← hd] at hc hb
        have hyd : Hid (d = y % 128) := hd
        clear hd
        rw [show (((128 + d : Nat) : Int) % 128) = (d : Int) by omega, show ((128 + d : Nat) : Int) = 128 + (d : Int) by omega] at hb
        go_wp2
        go_round
        case rel =>
          refine ⟨i + 1, f', acc + y % 128 * 2 ^ (7 * i), y / 128, h6.out, by go_num, ?_, by go_num, by go_num, ha.out, hx2.out, by rw [← Nat.add_assoc]; exact hd2.out, hlen.out, by omega⟩
          rw [← hj.out, ← hyd.out]
        case measure => simp [intOf]; omega
end Go.Proofs.Qxb6628550a
