import Derived.Test.Qxb6628020aRows
import Derived.Test.Qxb6628020aPlain
import Derived.WalkKit
import Derived.WalkSpells
import Derived.WalkLawsBesides
import Derived.Laws.Bits128
namespace Go.Proofs.Qxb6628020a
open Go.RowKit

theorem Try.info5 : (Try.prog.info? 5).map (fun i => (i.zero, i.size, i.bytes)) = some (some (.int .u8 0), 1, 1) := by kernel_rfl

/-- The cells of a list of bytes. -/
def bs (l : List Nat) : List Value := l.map fun x : Nat => Value.int .u8 (x : Int)
theorem bs_len (l : List Nat) : (bs l).length = l.length := by simp [bs]
theorem bs_one (l : List Nat) : ∀ u ∈ bs l, u.oneCell' = true := by
  intro u hu
  obtain ⟨_, _, rfl⟩ := List.mem_map.1 hu
  rfl
theorem bs_get (l : List Nat) (j : Nat) (h : j < l.length) : (bs l)[j]? = some (.int .u8 (l.getD j 0 : Nat)) := by
  simp [bs, List.getD, h]
theorem u8_or_128 (y : Int) (h0 : 0 ≤ y) (h1 : y < 128) : bits .or .u8 128 y = 128 + y := by
  rw [u8_or 128 y (by omega) (by omega) h0 (by omega)]
  have : (128 : Int).toNat = 128 := rfl
  rw [this, nat_join 7 128 y.toNat (by decide) (by omega)]
  omega
attribute [local go_sem] i64_and127

/-- A slice that owns something lies somewhere. -/
theorem own_shape {w : World} {base : Nat} {e : TypeId} {size : Nat} {v : Value} {n : Nat} {xs : List Value} (h : w.ownsRow base e size v n xs) (hn : 0 < n) :
    ∃ g cap, v = .slice (some ⟨g, 0, none⟩) n cap ∧ base ≤ g ∧ g < w.heap.size := by
  rcases h.2 with ⟨_, h0⟩ | ⟨g, cap, cur, hv, hg, hh, _⟩
  · omega
  · exact ⟨g, cap, hv, hg, (Array.getElem?_eq_some_iff.1 hh).1⟩

set_option maxHeartbeats 400000 in
theorem distance_any (D : Nat) (hD : D < 9223372036854775808) (w : World) :
    Calls Try.prog 5 #[.int .i64 D] w fun e w' => ∃ g cap, e = .returned (.slice (some ⟨g, 0, none⟩) (Plain.enc D).length cap) ∧
      w'.ownsRow w.heap.size 5 1 (.slice (some ⟨g, 0, none⟩) (Plain.enc D).length cap) (Plain.enc D).length (bs (Plain.enc D)) ∧ Below w.heap.size w w' := by
  obtain ⟨i0, hi, hz0, hz1, hz2⟩ := info_parts Try.info5
  go_enter Try.func5, Try.ntmps5
  go_wp2
  go_loopw [0, 3] (fun t b wr => ∃ (f d : Nat) (l : List Nat) (g cap : Nat), f ≤ 8 ∧ d < 128 ^ f ∧ Plain.digs f d ++ l = Plain.enc D ∧ t = .int .i64 d ∧ b = .slice (some ⟨g, 0, none⟩) l.length cap ∧
      wr.ownsRow w.heap.size 5 1 (.slice (some ⟨g, 0, none⟩) l.length cap) l.length (bs l) ∧ Below w.heap.size w wr) (fun t _ _ => (intOf t).toNat)
  case atStart =>
    refine ⟨8, D / 128, [D % 128], w.heap.size, 1, Nat.le_refl _, by omega, rfl, by go_num, rfl, ?_, (Below.refl _ _).alloc (Nat.le_refl _) _⟩
    have h := World.ownsRow_lit (base := w.heap.size) (e := 5) (size := 1) w #[.int .u8 ((D : Int) % 128)] 1 (Nat.le_refl _) (by decide) rfl
    simpa [bs] using h
  case round =>
    obtain ⟨f, d, l, g, cap, hf, hd, he, rfl, rfl, hown, hbel⟩ := hrel
    have HD : Hid (d < 128 ^ f) := hd
    have HE : Hid (Plain.digs f d ++ l = Plain.enc D) := he
    clear hd he
    have hd8 : d < 72057594037927936 := Nat.lt_of_lt_of_le HD.out (Nat.pow_le_pow_right (by omega) hf)
    have hl9 : l.length ≤ 9 := by
      have h1 := (Plain.enc_len D).2
      rw [← HE.out] at h1
      simp at h1; omega
    by_cases h0 : d = 0
    · have hnp : ¬ (0 : Int) < (d : Int) := by omega
      go_wp2
      go_ret
      have hl : l = Plain.enc D := by have := HE.out; rw [h0, Plain.digs_zero] at this; simpa using this
      subst hl
      exact ⟨g, cap, rfl, hown, hbel⟩
    · have hpos : (0 : Int) < (d : Int) := by omega
      have hor : bits .or .u8 128 (((d : Int) - 1) % 128) = 128 + ((d : Int) - 1) % 128 := u8_or_128 _ (by omega) (by omega)
      have hsz := hbel.size
      go_wp2_with (at_builtin; refine wpList_append_own _ rfl _ _ 22 rfl w.heap.size 5 i0 (.int .u8 0) 1 1 Try.underlying22 hi hz0 hz1 hz2 rfl (by decide) _ 1 [.int .u8 (128 + ((d : Int) - 1) % 128)] rfl ?c0 ⟨g, 0, none⟩ l.length cap (bs l) rfl ?c2 ?c3 (bs_one l) ?c4 ?c5 ?c6 ?_)
      case c0 => exact World.ownsRow_lit (base := w.heap.size) (e := 5) (size := 1) wr #[.int .u8 (128 + ((d : Int) - 1) % 128)] 1 hsz (by decide) rfl
      case c2 => simp [bs_len]
      case c3 => exact (hown.alloc _).cells rfl
      case c4 => unfold maxLen; omega
      case c5 => omega
      case c6 => simp; omega
      intro v' w1 hown' hgrow hnil
      obtain ⟨g', cap', hv, hg', -⟩ := own_shape hown' (by omega)
      rw [hv] at hown' ⊢
      have hbel' : Below w.heap.size w w1 := (hbel.alloc hsz _).grown hgrow (by simp; omega) (by simp [Value.ownBlock]; omega)
      have hfp : 0 < f := by
        rcases Nat.eq_zero_or_pos f with e | e
        · have := HD.out; rw [e] at this; simp at this; omega
        · exact e
      obtain ⟨f', rfl⟩ : ∃ f', f = f' + 1 := ⟨f - 1, by omega⟩
      have hE : Plain.digs f' ((d - 1) / 128) ++ ((128 + (d - 1) % 128) :: l) = Plain.enc D := by
        have := HE.out
        rw [Plain.digs_succ f' d (by omega)] at this
        simpa using this
      have hD' : (d - 1) / 128 < 128 ^ f' := by have := HD.out; rw [Nat.pow_succ] at this; omega
      have hown2 : w1.ownsRow w.heap.size 5 1 (.slice (some ⟨g', 0, none⟩) ((128 + (d - 1) % 128) :: l).length cap') ((128 + (d - 1) % 128) :: l).length (bs ((128 + (d - 1) % 128) :: l)) := by
        have e1 : ((128 + (d - 1) % 128) :: l).length = 1 + l.length := by simp; omega
        have e2 : bs ((128 + (d - 1) % 128) :: l) = [.int .u8 (128 + ((d : Int) - 1) % 128)] ++ bs l := by
          have : ((128 + (d - 1) % 128 : Nat) : Int) = 128 + ((d : Int) - 1) % 128 := by omega
          simp only [bs, List.map_cons, this, List.singleton_append]
        rw [e1, e2]; exact hown'
      have HH : Hid (Plain.digs f' ((d - 1) / 128) ++ ((128 + (d - 1) % 128) :: l) = Plain.enc D) := hE
      clear hE hown' hgrow hnil hown hv HE HD
      go_wp2
      go_roundw
      case rel => exact ⟨f', (d - 1) / 128, (128 + (d - 1) % 128) :: l, g', cap', by omega, hD', HH.out, by go_num, by simp; omega, hown2, hbel'⟩
      case measure => simp [intOf]; omega
end Go.Proofs.Qxb6628020a
