import Derived.Test.Qxb6628593aZz
namespace Go.Proofs.Qxb6628593a
open Go.RowKit
set_option linter.unusedVariables false
set_option linter.unusedSimpArgs false

/-- How many words the thread adds. -/
def tN (th : ByteArray) : Nat := if th.toList.isEmpty = true then 0 else 2
theorem tN_le (th : ByteArray) : tN th ≤ 2 := by unfold tN; split <;> omega
theorem tN_empty (th : ByteArray) (h : th.toList.isEmpty = true) : tN th = 0 := if_pos h
theorem tN_more (th : ByteArray) (h : th.toList.isEmpty = false) : tN th = 2 := if_neg (by rw [h]; simp)
theorem tail_len (th : ByteArray) : (tail th).length = 1 + tN th := by unfold tail tN; split <;> rfl
theorem head_len (dir fp : ByteArray) : (head dir fp).length = 6 := rfl
theorem argv_len (dir fp : ByteArray) (ex : List ByteArray) (th : ByteArray) : (argv dir fp ex th).length = 7 + ex.length + tN th := by
  unfold argv; rw [List.length_append, List.length_append, tail_len, head_len]; omega

theorem gd_left (a b : List ByteArray) (j : Nat) (h : j < a.length) : (a ++ b).getD j ByteArray.empty = a.getD j ByteArray.empty := by
  simp [List.getD, List.getElem?_append_left h]
theorem gd_right (a b : List ByteArray) (j : Nat) : (a ++ b).getD (a.length + j) ByteArray.empty = b.getD j ByteArray.empty := by
  simp [List.getD, List.getElem?_append_right]
theorem gd_take (l : List ByteArray) (k j : Nat) (h : j < k) : (l.take k).getD j ByteArray.empty = l.getD j ByteArray.empty := by
  simp [List.getD, List.getElem?_take, h]

variable (dir fp th : ByteArray) (ex : List ByteArray)
theorem argv_head (j : Nat) (h : j < 6) : (argv dir fp ex th).getD j ByteArray.empty = (head dir fp).getD j ByteArray.empty := gd_left _ _ j h
theorem argv_mid (j : Nat) (h : j < ex.length) : (argv dir fp ex th).getD (6 + j) ByteArray.empty = ex.getD j ByteArray.empty := by
  unfold argv
  rw [show 6 + j = (head dir fp).length + j from rfl, gd_right, gd_left _ _ j h]
theorem argv_tail (j : Nat) : (argv dir fp ex th).getD (6 + (ex.length + j)) ByteArray.empty = (tail th).getD j ByteArray.empty := by
  unfold argv
  rw [show 6 + (ex.length + j) = (head dir fp).length + (ex.length + j) from rfl, gd_right, gd_right]
theorem argv_dir : (argv dir fp ex th).getD 3 ByteArray.empty = dir := by rw [argv_head _ _ _ _ 3 (by omega)]; rfl
theorem argv_fp : (argv dir fp ex th).getD 5 ByteArray.empty = fp := by rw [argv_head _ _ _ _ 5 (by omega)]; rfl
theorem tail_last : (tail th).getD (tN th) ByteArray.empty = ⟨#[45]⟩ := by unfold tail tN; split <;> rfl
theorem argv_last : (argv dir fp ex th).getD (6 + (ex.length + tN th)) ByteArray.empty = ⟨#[45]⟩ := by rw [argv_tail, tail_last]
theorem argv_resume (h : th.toList.isEmpty = false) : (argv dir fp ex th).getD (6 + (ex.length + 0)) ByteArray.empty = ⟨#[114, 101, 115, 117, 109, 101]⟩ := by
  rw [argv_tail]; unfold tail; rw [if_neg (by rw [h]; simp)]; rfl
theorem argv_thread (h : th.toList.isEmpty = false) : (argv dir fp ex th).getD (6 + (ex.length + 1)) ByteArray.empty = th := by
  rw [argv_tail]; unfold tail; rw [if_neg (by rw [h]; simp)]; rfl

/-- The first 6 + k words are those of the call with the first k extra words. -/
theorem cut_same (k : Nat) (hk : k ≤ ex.length) (i : Nat) (h : i < 6 + k) : (argv dir fp ex th).getD i ByteArray.empty = (argv dir fp (ex.take k) th).getD i ByteArray.empty := by
  by_cases h6 : i < 6
  · rw [argv_head _ _ _ _ i h6, argv_head _ _ _ _ i h6]
  · obtain ⟨j, rfl⟩ : ∃ j, i = 6 + j := ⟨i - 6, by omega⟩
    rw [argv_mid _ _ _ _ j (by omega), argv_mid _ _ _ _ j (by rw [List.length_take]; omega), gd_take ex k j (by omega)]
/-- What stands behind them stands n - k places further on. -/
theorem cut_tail (k : Nat) (hk : k ≤ ex.length) (j : Nat) (h : 6 + k ≤ j) : (argv dir fp ex th).getD (j + ex.length - k) ByteArray.empty = (argv dir fp (ex.take k) th).getD j ByteArray.empty := by
  obtain ⟨m, rfl⟩ : ∃ m, j = 6 + k + m := ⟨j - 6 - k, by omega⟩
  have hl : (ex.take k).length = k := by rw [List.length_take]; omega
  have e1 := argv_tail dir fp th ex m
  have e2 := argv_tail dir fp th (ex.take k) m
  rw [hl] at e2
  rw [show 6 + k + m + ex.length - k = 6 + (ex.length + m) by omega, show 6 + k + m = 6 + (k + m) by omega, e1, e2]
end Go.Proofs.Qxb6628593a
