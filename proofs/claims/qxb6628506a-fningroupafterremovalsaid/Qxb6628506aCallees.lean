import Derived.Test.Qxb6628506aRows
import Derived.WalkKit
import Derived.WalkSpells
import Derived.WalkLawsBesides
namespace Go.Proofs.Qxb6628506a
open Go.RowKit
set_option linter.unusedVariables false
set_option linter.unusedSimpArgs false

/-- What the walk is told of a slice of strings: where there is an element, the slice leads to a plain row, and the element lies there. -/
def SRow (w : World) (a : Option Addr) (n : Nat) (ss : List ByteArray) : Prop :=
  ss.length = n ∧ ∀ j, j < n → ∃ b off, a = some ⟨b, off, none⟩ ∧ w.cell? ⟨b, off + j, none⟩ = some (.string (ss.getD j ByteArray.empty))

/-- The call comes back with a bool, whichever. -/
def IsBool (e : Ending) : Prop := ∃ b : Bool, e = .returned (.bool b)

set_option maxHeartbeats 400000 in
theorem sizeFits_any (x0 x1 x3 x4 : ByteArray) (a : Option Addr) (n c : Nat) (ss : List ByteArray) (hn : n ≤ 9223372036854775807) (w : World) (h : SRow w a n ss) :
    Calls Try.prog 6 #[.string x0, .string x1, .slice a n c, .string x3, .string x4] w fun e w' => IsBool e ∧ w' = w := by
  have H : Hid (SRow w a n ss) := h
  clear h
  go_enter Try.func6, Try.ntmps6
  go_wp2
  all_goals try (go_ret; exact ⟨⟨_, rfl⟩, rfl⟩)
  go_loop [11, 12] (fun t i => ∃ (k : Nat) (s : Int), k ≤ n ∧ i = .int .i64 k ∧ t = .int .i64 s) (fun _ i => n - (intOf i).toNat)
  case atStart => exact ⟨0, _, Nat.zero_le _, rfl, rfl⟩
  case round =>
    obtain ⟨k, s, hk, rfl, rfl⟩ := hrel
    by_cases hkn : k < n
    · obtain ⟨b, off, rfl, hc⟩ := H.out.2 k hkn
      generalize ss.getD k ByteArray.empty = x at hc
      go_wp2
      · go_ret
        exact ⟨⟨_, rfl⟩, rfl⟩
      · go_round
        case rel => exact ⟨k + 1, _, by omega, by go_num, rfl⟩
        case measure => simp [intOf]; omega
    · go_wp2
      go_ret
      exact ⟨⟨_, rfl⟩, rfl⟩

set_option maxHeartbeats 800000 in
theorem zzIns_any (x0 x1 x4 x5 : ByteArray) (i : Int) (a : Option Addr) (n c : Nat) (ss : List ByteArray) (hn : n ≤ 9223372036854775807) (w : World) (h : SRow w a n ss) :
    Calls Try.prog 5 #[.string x0, .string x1, .slice a n c, .int .i64 i, .string x4, .string x5] w fun e w' => IsBool e ∧ w' = w := by
  have H : Hid (SRow w a n ss) := h
  clear h
  go_enter Try.func5, Try.ntmps5
  go_wp2
  all_goals try (go_ret; exact ⟨⟨_, rfl⟩, rfl⟩)
  go_loop [13, 14] (fun t i => ∃ (k : Nat) (s : Int), k ≤ n ∧ i = .int .i64 k ∧ t = .int .i64 s) (fun _ i => n - (intOf i).toNat)
  case atStart => exact ⟨0, _, Nat.zero_le _, rfl, rfl⟩
  case round =>
    obtain ⟨k, s, hk, rfl, rfl⟩ := hrel
    by_cases hkn : k < n
    · obtain ⟨b, off, rfl, hc⟩ := H.out.2 k hkn
      generalize ss.getD k ByteArray.empty = x at hc
      go_wp2
      · go_ret
        exact ⟨⟨_, rfl⟩, rfl⟩
      · go_ret
        exact ⟨⟨_, rfl⟩, rfl⟩
      · go_round
        case rel => exact ⟨k + 1, _, by omega, by go_num, rfl⟩
        case measure => simp [intOf]; omega
    · go_wp2
      all_goals (go_ret; exact ⟨⟨_, rfl⟩, rfl⟩)

set_option maxHeartbeats 800000 in
theorem zzRem_any (x0 x1 x3 x4 : ByteArray) (a : Option Addr) (n c : Nat) (ss : List ByteArray) (hn : n ≤ 9223372036854775807) (w : World) (h : SRow w a n ss) :
    Calls Try.prog 8 #[.string x0, .string x1, .slice a n c, .string x3, .string x4] w fun e w' => IsBool e ∧ w' = w := by
  have H : Hid (SRow w a n ss) := h
  clear h
  go_enter Try.func8, Try.ntmps8
  go_wp2
  all_goals try (go_ret; exact ⟨⟨_, rfl⟩, rfl⟩)
  go_loop [11, 12] (fun t i => ∃ (k : Nat) (s : Int), k ≤ n ∧ i = .int .i64 k ∧ t = .int .i64 s) (fun _ i => n - (intOf i).toNat)
  case atStart => exact ⟨0, _, Nat.zero_le _, rfl, rfl⟩
  case round =>
    obtain ⟨k, s, hk, rfl, rfl⟩ := hrel
    by_cases hkn : k < n
    · obtain ⟨b, off, rfl, hc⟩ := H.out.2 k hkn
      generalize ss.getD k ByteArray.empty = x at hc
      go_wp2
      · go_ret
        exact ⟨⟨_, rfl⟩, rfl⟩
      · go_ret
        exact ⟨⟨_, rfl⟩, rfl⟩
      · go_round
        case rel => exact ⟨k + 1, _, by omega, by go_num, rfl⟩
        case measure => simp [intOf]; omega
    · go_wp2
      all_goals (go_ret; exact ⟨⟨_, rfl⟩, rfl⟩)

/-- Is h one of the groups? -/
def inG (ss : List ByteArray) (h : ByteArray) : Bool := ss.any fun s => s.toList == h.toList
theorem take_snoc (ss : List ByteArray) (k : Nat) (h : k < ss.length) : ss.take (k + 1) = ss.take k ++ [ss.getD k ByteArray.empty] := by
  rw [List.take_succ_eq_append_getElem h]; simp [List.getD, h]
theorem inG_append (a b : List ByteArray) (h : ByteArray) : inG (a ++ b) h = (inG a h || inG b h) := by simp [inG]
theorem inG_one (s h : ByteArray) : inG [s] h = (s.toList == h.toList) := by simp [inG]
theorem inG_take (ss : List ByteArray) (k : Nat) (h : k < ss.length) (g : ByteArray) : inG (ss.take (k + 1)) g = (inG (ss.take k) g || ((ss.getD k ByteArray.empty).toList == g.toList)) := by
  rw [take_snoc ss k h, inG_append, inG_one]
theorem inG_of_take (ss : List ByteArray) (k : Nat) (g : ByteArray) (h : inG (ss.take k) g = true) : inG ss g = true := by
  rw [← List.take_append_drop k ss, inG_append, h]; rfl
theorem ret_bool {a b : Bool} (h : a = b) : Ending.returned (.bool a) = .returned (.bool b) := by rw [h]

set_option maxHeartbeats 400000 in
theorem inGroup_any (p : Nat) (h : ByteArray) (a : Option Addr) (n c : Nat) (ss : List ByteArray) (hn : n ≤ 9223372036854775807) (w : World) (hp : w.cell? ⟨p, 2, none⟩ = some (.slice a n c)) (hs : SRow w a n ss) :
    Calls Try.prog 7 #[.pointer (some ⟨p, 0, none⟩), .string h] w fun e w' => e = .returned (.bool (inG ss h)) ∧ w' = w := by
  have H : Hid (SRow w a n ss) := hs
  clear hs
  go_enter Try.func7, Try.ntmps7
  go_wp2
  go_loop [12] (fun i => ∃ k : Nat, k ≤ n ∧ i = .int .i64 k ∧ inG (ss.take k) h = false) (fun i => n - (intOf i).toNat)
  case atStart => exact ⟨0, Nat.zero_le _, rfl, rfl⟩
  case round =>
    obtain ⟨k, hk, rfl, hno⟩ := hrel
    have HN : Hid (inG (ss.take k) h = false) := hno
    clear hno
    by_cases hkn : k < n
    · obtain ⟨b, off, rfl, hc⟩ := H.out.2 k hkn
      have ht : Hid (inG (ss.take (k + 1)) h = (inG (ss.take k) h || ((ss.getD k ByteArray.empty).toList == h.toList))) := inG_take ss k (by rw [H.out.1]; omega) h
      generalize ss.getD k ByteArray.empty = x at hc ht
      by_cases hx : (x.toList == h.toList) = true
      · have hr : Hid (inG ss h = true) := inG_of_take ss (k + 1) h (by rw [ht.out, hx]; simp)
        go_wp2
        go_ret
        exact ⟨ret_bool hr.out.symm, rfl⟩
      · have hx' : (x.toList == h.toList) = false := by simpa using hx
        have hr : Hid (inG (ss.take (k + 1)) h = false) := by unfold Hid; rw [ht.out, hx', HN.out]; rfl
        clear hx
        go_wp2
        go_round
        case rel => exact ⟨k + 1, by omega, by go_num, hr.out⟩
        case measure => simp [intOf]; omega
    · have hr : Hid (inG ss h = false) := by
        have := HN.out
        rwa [List.take_of_length_le (by rw [H.out.1]; omega)] at this
      go_wp2
      go_ret
      exact ⟨ret_bool hr.out.symm, rfl⟩
end Go.Proofs.Qxb6628506a
