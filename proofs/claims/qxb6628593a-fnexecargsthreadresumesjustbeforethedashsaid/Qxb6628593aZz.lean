import Derived.Test.Qxb6628593aExec
import Derived.Laws.CopyOwn
import Derived.Deep.QuietTactic
import Derived.BigQuiet
namespace Go.Proofs.Qxb6628593a
open Go.RowKit
set_option linter.unusedVariables false
set_option linter.unusedSimpArgs false

/-- The call comes back with a bool, whichever. -/
def IsBool (e : Ending) : Prop := ∃ b : Bool, e = .returned (.bool b)

set_option maxHeartbeats 800000 in
theorem zzExtra_any (x0 x1 x3 : ByteArray) (i : Int) (a : Option Addr) (n c : Nat) (ss : List ByteArray) (hn : n ≤ 9223372036854775807) (w : World) (h : SRow w a n ss) :
    Calls Try.prog 5 #[.string x0, .string x1, .slice a n c, .string x3, .int .i64 i] w fun e w' => IsBool e ∧ w' = w := by
  have H : Hid (SRow w a n ss) := h
  clear h
  go_enter Try.func5, Try.ntmps5
  go_wp2
  all_goals try (go_ret; exact ⟨⟨_, rfl⟩, rfl⟩)
  go_loop [11, 12] (fun t i => ∃ (k : Nat) (s : Int), k ≤ n ∧ i = .int .i64 k ∧ t = .int .i64 s) (fun _ i => n - (intOf i).toNat)
  case atStart => exact ⟨0, _, Nat.zero_le _, rfl, rfl⟩
  case round =>
    obtain ⟨k, s, hk, rfl, rfl⟩ := hrel
    by_cases hkn : k < n
    · obtain ⟨b, off, rfl, hc⟩ := H.out.2 k hkn
      generalize ss.getD k ByteArray.empty = x at hc
      go_wp2
      · go_ret
        exact ⟨⟨_, rfl⟩, rfl⟩
      · go_ret
        exact ⟨⟨_, rfl⟩, rfl⟩
      · go_round
        case rel => exact ⟨k + 1, _, by omega, by go_num, rfl⟩
        case measure => simp [intOf]; omega
    · go_wp2
      all_goals (go_ret; exact ⟨⟨_, rfl⟩, rfl⟩)

set_option maxHeartbeats 800000 in
theorem zzThread_any (x0 x1 x3 : ByteArray) (a : Option Addr) (n c : Nat) (ss : List ByteArray) (hn : n ≤ 9223372036854775807) (w : World) (h : SRow w a n ss) :
    Calls Try.prog 7 #[.string x0, .string x1, .slice a n c, .string x3] w fun e w' => IsBool e ∧ w' = w := by
  have H : Hid (SRow w a n ss) := h
  clear h
  go_enter Try.func7, Try.ntmps7
  go_wp2
  all_goals try (go_ret; exact ⟨⟨_, rfl⟩, rfl⟩)
  go_loop [9, 10] (fun t i => ∃ (k : Nat) (s : Int), k ≤ n ∧ i = .int .i64 k ∧ t = .int .i64 s) (fun _ i => n - (intOf i).toNat)
  case atStart => exact ⟨0, _, Nat.zero_le _, rfl, rfl⟩
  case round =>
    obtain ⟨k, s, hk, rfl, rfl⟩ := hrel
    by_cases hkn : k < n
    · obtain ⟨b, off, rfl, hc⟩ := H.out.2 k hkn
      generalize ss.getD k ByteArray.empty = x at hc
      go_wp2
      · go_ret
        exact ⟨⟨_, rfl⟩, rfl⟩
      · go_ret
        exact ⟨⟨_, rfl⟩, rfl⟩
      · go_round
        case rel => exact ⟨k + 1, _, by omega, by go_num, rfl⟩
        case measure => simp [intOf]; omega
    · go_wp2
      all_goals (go_ret; exact ⟨⟨_, rfl⟩, rfl⟩)

/-- A full row of our own, cell by cell. -/
theorem own_block {w : World} {B g n : Nat} {xs : List Value} (h : w.ownsRow B 9 1 (.slice (some ⟨g, 0, none⟩) n n) n xs) : B ≤ g ∧ w.heap[g]? = some (.cells xs.toArray 9 (0, 0)) := by
  rcases h.2 with ⟨h', _⟩ | ⟨g', cap', cur, h', hb, hg, _, _, hcs, htake⟩
  · simp at h'
  · simp only [Value.slice.injEq, Option.some.injEq, Addr.mk.injEq, and_true, true_and] at h'
    obtain ⟨rfl, rfl⟩ := h'
    rw [List.take_of_length_le (by rw [Array.length_toList, hcs]; omega)] at htake
    refine ⟨hb, ?_⟩
    rw [hg, ← htake]
theorem srow_block {w : World} {g n : Nat} {ss : List ByteArray} (h : w.heap[g]? = some (.cells (vs ss).toArray 9 (0, 0))) (hn : ss.length = n) : SRow w (some ⟨g, 0, none⟩) n ss := by
  refine ⟨hn, fun j hj => ⟨g, 0, rfl, ?_⟩⟩
  rw [Nat.zero_add, cell_of_row w g j _ 9 (0, 0) h]
  rw [List.getElem?_toArray]
  exact vs_get ss j (by omega)
theorem splice_all (L cs : List Value) (h : cs.length = L.length) : splice L 0 cs = cs := by
  unfold splice
  rw [List.drop_eq_nil_of_le (by omega)]
  simp

/-- What is known of the list of extra words behind the copy. -/
def Extra (w0 w : World) (a : Option Addr) (n c : Nat) (ss : List ByteArray) : Prop :=
  SRow w a n ss ∧ (a = none → n = 0 ∧ c = 0) ∧ n ≤ c ∧ c ≤ 9223372036854775807 ∧ (∀ b off, a = some ⟨b, off, none⟩ → 0 < n → b < w.heap.size) ∧ Below w0.heap.size w0 w
end Go.Proofs.Qxb6628593a
