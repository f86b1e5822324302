import Derived.Test.Qxb6628506aIns
namespace Go.Proofs.Qxb6628506a
open Go.RowKit
set_option linter.unusedVariables false
set_option linter.unusedSimpArgs false

theorem hid {p : Prop} (h : p) : Hid p := h

/-- Of the first k groups those that are not g. -/
def rem (ss : List ByteArray) (k : Nat) (g : ByteArray) : List ByteArray := (ss.take k).filter fun s => !(s.toList == g.toList)
theorem rem_le (ss : List ByteArray) (k : Nat) (g : ByteArray) : (rem ss k g).length ≤ k := by
  unfold rem
  exact Nat.le_trans (List.length_filter_le _ _) (List.length_take_le _ _)
theorem rem_keep (ss : List ByteArray) (k : Nat) (g : ByteArray) (h : k < ss.length) (e : ((ss.getD k ByteArray.empty).toList == g.toList) = false) : rem ss (k + 1) g = rem ss k g ++ [ss.getD k ByteArray.empty] := by
  unfold rem
  rw [take_snoc ss k h, List.filter_append, List.filter_cons_of_pos (by rw [e]; rfl), List.filter_nil]
theorem rem_drop (ss : List ByteArray) (k : Nat) (g : ByteArray) (h : k < ss.length) (e : ((ss.getD k ByteArray.empty).toList == g.toList) = true) : rem ss (k + 1) g = rem ss k g := by
  unfold rem
  rw [take_snoc ss k h, List.filter_append, List.filter_cons_of_neg (by rw [e]; simp), List.filter_nil, List.append_nil]
theorem rem_self (ss : List ByteArray) (k : Nat) (g h : ByteArray) (e : (h.toList == g.toList) = true) : inG (rem ss k g) h = false := by
  unfold inG rem
  rw [List.any_eq_false]
  intro s hs
  have h1 := (List.mem_filter.1 hs).2
  simp at h1 e ⊢
  rw [e]; exact h1
theorem rem_other (ss : List ByteArray) (g h : ByteArray) (e : (h.toList == g.toList) = false) : inG (rem ss ss.length g) h = inG ss h := by
  unfold rem inG
  rw [List.take_length, Bool.eq_iff_iff]
  simp at e
  simp only [List.any_eq_true, List.mem_filter, beq_iff_eq, Bool.not_eq_true', beq_eq_false_iff_ne]
  constructor
  · rintro ⟨s, ⟨h1, h2⟩, h3⟩
    exact ⟨s, h1, h3⟩
  · rintro ⟨s, h1, h3⟩
    exact ⟨s, ⟨h1, by rw [h3]; exact e⟩, h3⟩
theorem rem_in (ss : List ByteArray) (g : ByteArray) (h : inG ss g = true) : (rem ss ss.length g).length < ss.length := by
  unfold rem
  unfold inG at h
  rw [List.take_length]
  obtain ⟨s, h1, h2⟩ := List.any_eq_true.1 h
  exact List.length_filter_lt_length_iff_exists.2 ⟨s, h1, by simpa using h2⟩
theorem rem_out (ss : List ByteArray) (g : ByteArray) (h : inG ss g = false) : (rem ss ss.length g).length = ss.length := by
  unfold rem
  unfold inG at h
  rw [List.take_length]
  rw [List.any_eq_false] at h
  rw [List.filter_eq_self.2]
  intro s hs
  have := h s hs
  simpa using this

set_option maxHeartbeats 800000 in
theorem rem_walk (x0 x1 : ByteArray) (a : Option Addr) (n c : Nat) (ss : List ByteArray) (g h : ByteArray) (w : World) (hs : SRow w a n ss) (hlt : ∀ b off, a = some ⟨b, off, none⟩ → 0 < n → b < w.heap.size)
    (hn : n ≤ 65536) (h0 : x0.size ≤ 1048576) (h1 : x1.size ≤ 1048576) (h4 : g.size ≤ 1048576) (h5 : h.size ≤ 1048576) :
    Calls Try.prog 4 #[.string x0, .string x1, .slice a n c, .string g, .string h] w fun e w' => e = .returned (.bool true) ∧ Below w.heap.size w w' := by
  have H : Hid (SRow w a n ss) := hs
  have HL : Hid (∀ b off, a = some ⟨b, off, none⟩ → 0 < n → b < w.heap.size) := hlt
  clear hs hlt
  obtain ⟨i0, hi0, hz0, hz1, hz2⟩ := info_parts Try.info9
  go_enter Try.func4, Try.ntmps4
  go_wp2_with fail
  refine (zzRem_any x0 x1 g h a n c ss (by omega) _ H.out).mono ?_
  rintro e w1 ⟨⟨b, rfl⟩, hw⟩
  subst hw
  cases b with
  | false =>
    go_wp2
    go_ret
    exact ⟨rfl, Below.refl _ _⟩
  | true =>
  go_wp2_with fail
  refine (sizeFits_any x0 x1 g h a n c ss (by omega) _ H.out).mono ?_
  rintro e w1 ⟨⟨b, rfl⟩, hw⟩
  subst hw
  cases b with
  | false =>
    go_wp2
    go_ret
    exact ⟨rfl, Below.refl _ _⟩
  | true =>
  go_wp2_with (at_make; refine wpList_make_own _ rfl _ _ 22 rfl w1.heap.size 9 i0 (.string ByteArray.empty) 1 Try.underlying22 hi0 hz0 hz1 _ _ _ n rfl rfl ?m0 ?m1 ?m2 ?m3 ?_)
  case m0 => rfl
  case m1 => rw [hz2]; omega
  case m2 => unfold maxLen; omega
  case m3 => exact Nat.le_refl _
  intro w2 ho2 hg2
  have hb2 : Below w1.heap.size w1 w2 := (Below.refl _ _).grown hg2 (Nat.le_refl _) (by simp)
  go_wp2
  clear hg2
  have O2 : Hid (w2.ownsRow w1.heap.size 9 1 (.slice (some ⟨w1.heap.size, 0, none⟩) (rem ss 0 g).length n) (rem ss 0 g).length (vs (rem ss 0 g))) := by unfold Hid; simpa [vs, rem] using ho2
  clear ho2
  go_loopw [11, 12] (fun v t wr => ∃ k : Nat, k ≤ n ∧ t = .int .i64 k ∧ v = .slice (some ⟨w1.heap.size, 0, none⟩) (rem ss k g).length n ∧ wr.ownsRow w1.heap.size 9 1 (.slice (some ⟨w1.heap.size, 0, none⟩) (rem ss k g).length n) (rem ss k g).length (vs (rem ss k g)) ∧ Below w1.heap.size w1 wr) (fun _ t _ => n - (intOf t).toNat)
  case atStart => exact ⟨0, Nat.zero_le _, rfl, rfl, O2.out, hb2⟩
  case round =>
    obtain ⟨k, hk, rfl, rfl, hown, hbel⟩ := hrel
    clear O2 hb2
    have hsz := hbel.size
    have hrl := rem_le ss k g
    by_cases hki : k < n
    · obtain ⟨b, off, rfl, hc0⟩ := H.out.2 k (by omega)
      have hc := (hbel.cell (p := ⟨b, off + k, none⟩) (HL.out b off rfl (by omega))).trans hc0
      have rk := hid (rem_keep ss k g (by rw [H.out.1]; omega))
      have rd := hid (rem_drop ss k g (by rw [H.out.1]; omega))
      clear hc0
      generalize ss.getD k ByteArray.empty = x at hc rk rd
      by_cases hx : (x.toList == g.toList) = false
      · have ht := rk.out hx
        have hvs : Hid (vs (rem ss (k + 1) g) = vs (rem ss k g) ++ [.string x]) := by unfold Hid; rw [ht]; simp [vs]
        have hln : Hid ((rem ss (k + 1) g).length = (rem ss k g).length + 1) := by unfold Hid; rw [ht]; simp
        clear rk rd ht
        go_wp2_with (at_builtin; refine wpList_append_fits _ rfl _ _ 22 rfl w1.heap.size 9 i0 1 Try.underlying22 hi0 hz1 w1.heap.size (rem ss k g).length n (vs (rem ss k g)) rfl ?c0 ⟨wr.heap.size, 0, none⟩ 1 1 [.string x] rfl ?c2 ?c3 ?c4 ?c5 ?_)
        case c0 => exact hown.alloc _
        case c2 => rfl
        case c3 => exact cell_one_new _ _ _
        case c4 => intro u hu; simp at hu; subst hu; rfl
        case c5 => omega
        intro w3 ho3 hg3
        have hb3 : Hid (Below w1.heap.size w1 w3) := (hbel.alloc hsz _).grown hg3 (by simp; omega) (by simp)
        rw [← hvs.out] at ho3
        have O3 := hid (ho3)
        clear ho3 hg3 hown hbel hc hvs
        go_wp2
        go_roundw
        case rel => exact ⟨k + 1, by omega, by go_num, by rw [hln.out], by rw [hln.out]; exact O3.out, hb3.out⟩
        case measure => simp [intOf]; omega
      · have hx' : (x.toList == g.toList) = true := by simpa using hx
        have ht := hid (rd.out hx')
        clear rk rd hx
        have O3 := hid (hown)
        have hb3 := hid (hbel)
        clear hown hbel
        go_wp2
        go_roundw
        case rel => exact ⟨k + 1, by omega, by go_num, by rw [ht.out], by rw [ht.out]; exact O3.out, hb3.out⟩
        case measure => simp [intOf]; omega
    · have em : k = n := by omega
      subst em
      have hl1 : Hid (ss.length = k) := H.out.1
      have S1 : Hid (SRow wr (some ⟨w1.heap.size, 0, none⟩) (rem ss k g).length (rem ss k g)) := srow_own hown rfl
      have S2 : Hid (SRow wr a k ss) := srow_below H.out hbel HL.out
      have hG := (own_lt hown).2
      have tb := two_boxes wr (.string x0) (.string x1) (.slice a k c) (.map none) (.string x0) (.string x1) (.slice (some ⟨w1.heap.size, 0, none⟩) (rem ss k g).length k) (.map none)
      have S1' := srow_below S1.out tb.2.2 (by intro b off hb _; simp at hb; omega)
      have S2' := srow_below S2.out tb.2.2 (by intro b off hb h0; exact Nat.lt_of_lt_of_le (HL.out b off hb h0) hsz)
      have B1 : Hid (Below w1.heap.size w1 _) := hbel.trans (tb.2.2.mono hsz)
      have P1 := hid (tb.2.1)
      have P2 := hid (tb.1)
      have T1 := hid (S1')
      have T2 := hid (S2')
      have hself : Hid (inG (rem ss k g) g = false) := rem_self ss k g g (by simp)
      have hoth : Hid ((h.toList == g.toList) = false → inG (rem ss k g) h = inG ss h) := fun e => by have := rem_other ss g h e; rwa [hl1.out] at this
      have hsam : Hid ((h.toList == g.toList) = true → inG (rem ss k g) h = false) := rem_self ss k g h
      have hin : Hid (inG ss g = true → (rem ss k g).length < k) := fun e => by have := rem_in ss g e; rwa [hl1.out] at this
      have hout : Hid (inG ss g = false → (rem ss k g).length = k) := fun e => by have := rem_out ss g e; rwa [hl1.out] at this
      clear hown hbel hki tb S1' S2' S1 S2
      generalize rem ss k g = r at *
      go_wp2_with fail
      refine (inGroup_any (wr.heap.size + 1) g _ _ _ r (by omega) _ P1.out T1.out).mono ?_
      rintro e w5 ⟨rfl, hw⟩
      subst hw
      rw [hself.out]
      go_wp2_with fail
      refine (inGroup_any (wr.heap.size + 1) h _ _ _ r (by omega) _ P1.out T1.out).mono ?_
      rintro e w5 ⟨rfl, hw⟩
      subst hw
      by_cases hgh : (h.toList == g.toList) = false
      · rw [hoth.out hgh]
        go_wp2_with fail
        refine (inGroup_any wr.heap.size h _ _ _ ss (by omega) _ P2.out T2.out).mono ?_
        rintro e w5 ⟨rfl, hw⟩
        subst hw
        generalize inG ss h = B
        cases B
        all_goals
          go_wp2_with fail
          refine (inGroup_any wr.heap.size g _ _ _ ss (by omega) _ P2.out T2.out).mono ?_
          rintro e w5 ⟨rfl, hw⟩
          subst hw
          by_cases hg : inG ss g = true
          · have hlt := hin.out hg
            rw [hg]
            clear hg
            go_wp2
            go_ret
            exact ⟨rfl, B1.out⟩
          · have hg' : inG ss g = false := by simpa using hg
            have hge : k ≤ r.length := Nat.le_of_eq (hout.out hg').symm
            rw [hg']
            clear hg hg'
            go_wp2
            go_ret
            exact ⟨ret_bool (by simp; omega), B1.out⟩
      · have hgh' : (h.toList == g.toList) = true := by simpa using hgh
        rw [hsam.out hgh']
        clear hgh
        go_wp2_with fail
        refine (inGroup_any wr.heap.size g _ _ _ ss (by omega) _ P2.out T2.out).mono ?_
        rintro e w5 ⟨rfl, hw⟩
        subst hw
        by_cases hg : inG ss g = true
        · have hlt := hin.out hg
          rw [hg]
          clear hg
          go_wp2
          go_ret
          exact ⟨rfl, B1.out⟩
        · have hg' : inG ss g = false := by simpa using hg
          have hge : k ≤ r.length := Nat.le_of_eq (hout.out hg').symm
          rw [hg']
          clear hg hg'
          go_wp2
          go_ret
          exact ⟨ret_bool (by simp; omega), B1.out⟩
end Go.Proofs.Qxb6628506a
