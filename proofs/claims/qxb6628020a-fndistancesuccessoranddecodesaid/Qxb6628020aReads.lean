import Derived.Test.Qxb6628020aShort
namespace Go.Proofs.Qxb6628020a
open Go.RowKit
set_option linter.unusedVariables false
set_option linter.unusedSimpArgs false

theorem u8_and127 (x : Nat) (h : x < 256) : bits .and .u8 (x : Int) 127 = (x : Int) % 128 := by
  have := u8_and_nat x 127 h (by omega)
  rw [show ((127 : Nat) : Int) = 127 from rfl] at this
  rw [this, nat_mask7]; omega
theorem u8_and128 (x : Nat) (h : x < 256) : bits .and .u8 (x : Int) 128 = (x : Int) / 128 * 128 := by
  have := u8_and_nat x 128 h (by omega)
  rw [show ((128 : Nat) : Int) = 128 from rfl] at this
  rw [this, show (128 : Nat) = 2 ^ 7 from rfl, nat_bit 7 x]
  omega

set_option maxHeartbeats 400000 in
theorem wf_any (g c : Nat) (D : Nat) (w : World) (hr : Row w g (Plain.enc D)) :
    Calls Try.prog 6 #[.slice (some ⟨g, 0, none⟩) (Plain.enc D).length c] w fun e w' => e = .returned (.bool true) ∧ w' = w := by
  have hl := Plain.enc_len D
  have h1 : 1 ≤ (Plain.enc D).length := hl.1
  have h2 : (Plain.enc D).length ≤ 9 := hl.2
  have HR : Hid (Row w g (Plain.enc D)) := hr
  have hin : Hid (∀ i, i + 1 < (Plain.enc D).length → 128 ≤ (Plain.enc D).getD i 0) := fun i hi => Plain.enc_wf_init D i hi
  have hla : Hid (∀ i, i + 1 = (Plain.enc D).length → (Plain.enc D).getD i 0 < 128) := fun i hi => Plain.enc_wf_last D i hi
  have hrg : Hid (∀ i, (Plain.enc D).getD i 0 < 256) := fun i => Plain.enc_getD D i
  clear hr hl
  generalize Plain.enc D = l at *
  obtain ⟨n, hn⟩ : ∃ n, l.length = n + 1 := ⟨l.length - 1, by omega⟩
  have hcl := HR.out n (by omega)
  have hb := u8_and128 (l.getD n 0) (hrg.out n)
  have hlt := hla.out n (by omega)
  rw [show ((l.getD n 0 : Nat) : Int) / 128 * 128 = 0 by omega] at hb
  generalize l.getD n 0 = z at hcl hb hlt
  rw [hn]
  have hn8 : n ≤ 8 := by omega
  go_enter Try.func6, Try.ntmps6
  go_wp2
  go_loop [4] (fun i => ∃ k : Nat, k ≤ n ∧ i = .int .i64 k) (fun i => n - (intOf i).toNat)
  case atStart => exact ⟨0, Nat.zero_le _, rfl⟩
  case round =>
    obtain ⟨k, hk, rfl⟩ := hrel
    by_cases hkn : k < n
    · have hc := HR.out k (by omega)
      have hb2 := u8_and128 (l.getD k 0) (hrg.out k)
      have hge := hin.out k (by omega)
      have hlt2 := hrg.out k
      rw [show ((l.getD k 0 : Nat) : Int) / 128 * 128 = 128 by omega] at hb2
      generalize l.getD k 0 = x at hc hb2 hge hlt2
      go_wp2
      go_round
      case rel => exact ⟨k + 1, by omega, by go_num⟩
      case measure => simp [intOf]; omega
    · go_wp2
      go_ret
      exact ⟨rfl, rfl⟩

theorem decFrom_ge (off : Nat) (l : List Nat) : off ≤ Plain.decFrom off l := by
  induction l generalizing off with
  | nil => exact Nat.le_refl _
  | cons x l ih => have := ih ((off + 1) * 128 + x % 128); simp only [Plain.decFrom]; omega
theorem decFrom_step (off : Nat) (l : List Nat) (k : Nat) (hk : k < l.length) : Plain.decFrom off (l.drop k) = Plain.decFrom ((off + 1) * 128 + l.getD k 0 % 128) (l.drop (k + 1)) := by
  rw [List.drop_eq_getElem_cons hk]
  simp [Plain.decFrom, List.getD, hk]
theorem u64_or7 (a b : Nat) (ha : a * 128 < 18446744073709551616) (hb : b < 128) : bits .or .u64 ((a : Int) * 128) (b : Int) = (a : Int) * 128 + b := by
  have := u64_or_nat (a * 128) b ha (by omega)
  rw [show ((a * 128 : Nat) : Int) = (a : Int) * 128 by omega] at this
  rw [this, nat_join 7 (a * 128) b (by omega) (by omega)]
  omega

set_option maxHeartbeats 400000 in
theorem dec_any (g c : Nat) (D : Nat) (hD : D < 9223372036854775808) (w : World) (hr : Row w g (Plain.enc D)) :
    Calls Try.prog 7 #[.slice (some ⟨g, 0, none⟩) (Plain.enc D).length c] w fun e w' => e = .returned (.int .u64 (D : Int)) ∧ w' = w := by
  have hl := Plain.enc_len D
  have h1 : 1 ≤ (Plain.enc D).length := hl.1
  have h2 : (Plain.enc D).length ≤ 9 := hl.2
  have HR : Hid (Row w g (Plain.enc D)) := hr
  have hrg : Hid (∀ i, (Plain.enc D).getD i 0 < 256) := fun i => Plain.enc_getD D i
  have hdec : Hid (Plain.dec (Plain.enc D) = D) := Plain.enc_dec D (by omega)
  clear hr hl
  generalize Plain.enc D = l at *
  have c0 := HR.out 0 (by omega)
  have b0 := u8_and127 (l.getD 0 0) (hrg.out 0)
  have r0 := hrg.out 0
  have hs0 : Hid (Plain.decFrom (l.getD 0 0 % 128) (l.drop 1) = D) := by
    have := hdec.out
    cases l with
    | nil => simp at h1
    | cons x l => show Plain.decFrom _ _ = D; simpa [Plain.dec] using this
  have i0 : (0 : Int) < (l.length : Int) := by omega
  generalize l.getD 0 0 = z at c0 b0 r0 hs0
  go_enter Try.func7, Try.ntmps7
  go_wp2
  go_loop [3, 4] (fun t i => ∃ k off : Nat, k ≤ l.length ∧ i = .int .i64 k ∧ t = .int .u64 off ∧ Plain.decFrom off (l.drop k) = D) (fun _ i => l.length - (intOf i).toNat)
  case atStart => exact ⟨1, z % 128, h1, rfl, by go_num, hs0.out⟩
  case round =>
    obtain ⟨k, off, hk, rfl, rfl, he⟩ := hrel
    have hoff := decFrom_ge off (l.drop k)
    rw [he] at hoff
    by_cases hkn : k < l.length
    · have hc := HR.out k hkn
      have hb := u8_and127 (l.getD k 0) (hrg.out k)
      have hx := hrg.out k
      rw [decFrom_step off l k hkn] at he
      have hoff2 := decFrom_ge ((off + 1) * 128 + l.getD k 0 % 128) (l.drop (k + 1))
      rw [he] at hoff2
      have HE : Hid (Plain.decFrom ((off + 1) * 128 + l.getD k 0 % 128) (l.drop (k + 1)) = D) := he
      clear he
      generalize l.getD k 0 = x at hc hb hx hoff2 HE
      have hor := u64_or7 (off + 1) (x % 128) (by omega) (by omega)
      rw [show (((off + 1 : Nat) : Int)) = (off : Int) + 1 by omega, show ((x % 128 : Nat) : Int) = (x : Int) % 128 by omega] at hor
      go_wp2
      go_round
      case rel => exact ⟨k + 1, (off + 1) * 128 + x % 128, by omega, by go_num, by go_num, HE.out⟩
      case measure => simp [intOf]; omega
    · have HE : Hid (off = D) := by
        rw [List.drop_eq_nil_of_le (by omega)] at he
        exact he
      clear he
      go_wp2
      go_ret
      exact ⟨ret_int (by rw [HE.out]), rfl⟩

/-- Two rows of the same bytes are equal. -/
theorem eq_any (ga gb ca cb : Nat) (l : List Nat) (h2 : l.length ≤ 1000) (w : World) (hra : Row w ga l) (hrb : Row w gb l) :
    Calls Try.prog 8 #[.slice (some ⟨ga, 0, none⟩) l.length ca, .slice (some ⟨gb, 0, none⟩) l.length cb] w fun e w' => e = .returned (.bool true) ∧ ∃ n, w' = w.drewN n := by
  have HA : Hid (Row w ga l) := hra
  have HB : Hid (Row w gb l) := hrb
  clear hra hrb
  go_enter Try.func8, Try.ntmps8
  go_wp2
  go_loopw [5] (fun i wr => ∃ k : Nat, k ≤ l.length ∧ i = .int .i64 k ∧ ∃ n, wr = w.drewN n) (fun i _ => l.length - (intOf i).toNat)
  case atStart => exact ⟨0, Nat.zero_le _, rfl, 0, rfl⟩
  case round =>
    obtain ⟨k, hk, rfl, n, rfl⟩ := hrel
    by_cases hkn : k < l.length
    · have c1 := HA.out k hkn
      have c2 := HB.out k hkn
      have i1 : (k : Int) < (l.length : Int) := by omega
      generalize l.getD k 0 = x at c1 c2
      go_wp2
      go_quiet (fail)
      go_wp2
      go_roundw
      case rel => exact ⟨k + 1, by omega, by go_num, _, rfl⟩
      case measure => simp [intOf]; omega
    · go_wp2
      go_ret
      exact ⟨rfl, _, rfl⟩
end Go.Proofs.Qxb6628020a
