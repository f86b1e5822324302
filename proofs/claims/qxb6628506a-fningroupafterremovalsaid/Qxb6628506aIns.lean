import Derived.Test.Qxb6628506aCallees
namespace Go.Proofs.Qxb6628506a
open Go.RowKit
set_option linter.unusedVariables false
set_option linter.unusedSimpArgs false

theorem Try.info9 : (Try.prog.info? 9).map (fun i => (i.zero, i.size, i.bytes)) = some (some (.string ByteArray.empty), 1, 16) := by kernel_rfl

def vs (l : List ByteArray) : List Value := l.map Value.string
theorem vs_len (l : List ByteArray) : (vs l).length = l.length := by simp [vs]
theorem vs_one (l : List ByteArray) : ∀ u ∈ vs l, u.oneCell' = true := by
  intro u hu
  obtain ⟨_, _, rfl⟩ := List.mem_map.1 hu
  rfl
theorem vs_get (l : List ByteArray) (j : Nat) (h : j < l.length) : (vs l)[j]? = some (.string (l.getD j ByteArray.empty)) := by
  simp [vs, List.getD, h]
/-- A row of our own, told as the reading walks are told. -/
theorem srow_own {w : World} {base g n cap : Nat} {l : List ByteArray} (h : w.ownsRow base 9 1 (.slice (some ⟨g, 0, none⟩) n cap) n (vs l)) (hn : l.length = n) : SRow w (some ⟨g, 0, none⟩) n l := by
  refine ⟨hn, fun j hj => ⟨g, 0, rfl, ?_⟩⟩
  rw [Nat.zero_add, h.cellAt j (by omega)]
  exact vs_get l j (by omega)
theorem srow_below {B : Nat} {w w' : World} {a : Option Addr} {n : Nat} {l : List ByteArray} (h : SRow w a n l) (hb : Below B w w') (hlt : ∀ b off, a = some ⟨b, off, none⟩ → 0 < n → b < B) : SRow w' a n l := by
  refine ⟨h.1, fun j hj => ?_⟩
  obtain ⟨b, off, ha, hc⟩ := h.2 j hj
  exact ⟨b, off, ha, (hb.cell (p := ⟨b, off + j, none⟩) (hlt b off ha (by omega))).trans hc⟩

theorem own_lt {w : World} {base g n cap : Nat} {xs : List Value} (h : w.ownsRow base 9 1 (.slice (some ⟨g, 0, none⟩) n cap) n xs) : base ≤ g ∧ g < w.heap.size := h.lt g rfl
/-- The list with g put in at place k. -/
def put (ss : List ByteArray) (k : Nat) (g : ByteArray) : List ByteArray := ss.take k ++ [g] ++ ss.drop k
theorem put_len (ss : List ByteArray) (k : Nat) (g : ByteArray) : (put ss k g).length = ss.length + 1 := by simp [put]; omega
theorem put_self (ss : List ByteArray) (k : Nat) (g : ByteArray) : inG (put ss k g) g = true := by
  unfold put
  rw [inG_append, inG_append, inG_one]
  simp
theorem put_same (ss : List ByteArray) (k : Nat) (g h : ByteArray) (e : (h.toList == g.toList) = true) : inG (put ss k g) h = true := by
  have e' : (g.toList == h.toList) = true := by simp at e ⊢; exact e.symm
  unfold put
  rw [inG_append, inG_append, inG_one, e']
  simp
theorem put_other (ss : List ByteArray) (k : Nat) (g h : ByteArray) (e : (h.toList == g.toList) = false) : inG (put ss k g) h = inG ss h := by
  have e' : (g.toList == h.toList) = false := by simp at e ⊢; exact fun x => e x.symm
  have e2 : inG ss h = (inG (ss.take k) h || inG (ss.drop k) h) := by rw [← inG_append, List.take_append_drop]
  rw [e2]
  unfold put
  rw [inG_append, inG_append, inG_one, e', Bool.or_false]
/-- What has been put together when the second loop stands at m. -/
def mid (ss : List ByteArray) (k m : Nat) (g : ByteArray) : List ByteArray := ss.take k ++ [g] ++ (ss.drop k).take (m - k)
theorem mid_start (ss : List ByteArray) (k : Nat) (g : ByteArray) : vs (ss.take k) ++ [.string g] = vs (mid ss k k g) := by simp [mid, vs]
theorem mid_end (ss : List ByteArray) (k : Nat) (g : ByteArray) : mid ss k ss.length g = put ss k g := by
  have : (ss.drop k).take (ss.length - k) = ss.drop k := List.take_of_length_le (by simp)
  unfold put mid; rw [this]
theorem mid_step (ss : List ByteArray) (k m : Nat) (g : ByteArray) (hk : k ≤ m) (h : m < ss.length) :
    vs (mid ss k (m + 1) g) = vs (mid ss k m g) ++ [.string (ss.getD m ByteArray.empty)] := by
  unfold mid
  have h1 : m - k < (ss.drop k).length := by simp; omega
  rw [show m + 1 - k = m - k + 1 by omega, take_snoc (ss.drop k) (m - k) h1]
  have : (ss.drop k).getD (m - k) ByteArray.empty = ss.getD m ByteArray.empty := by simp [List.getD, show k + (m - k) = m by omega]
  rw [this]
  simp [vs]

/-- Two structs laid one behind the other. -/
theorem two_boxes (wr : World) (p0 p1 p2 p3 q0 q1 q2 q3 : Value) :
    ((wr.alloc (.cells #[p0, p1, p2, p3] 28)).alloc (.cells #[q0, q1, q2, q3] 28)).cell? ⟨wr.heap.size, 2, none⟩ = some p2 ∧
    ((wr.alloc (.cells #[p0, p1, p2, p3] 28)).alloc (.cells #[q0, q1, q2, q3] 28)).cell? ⟨wr.heap.size + 1, 2, none⟩ = some q2 ∧
    Below wr.heap.size wr ((wr.alloc (.cells #[p0, p1, p2, p3] 28)).alloc (.cells #[q0, q1, q2, q3] 28)) := by
  refine ⟨by simp [go_sem], by simp [go_sem], ((Below.refl _ _).alloc (Nat.le_refl _) _).alloc (by simp) _⟩

set_option maxHeartbeats 800000 in
theorem ins_in (x0 x1 : ByteArray) (a : Option Addr) (n c : Nat) (ss : List ByteArray) (i : Nat) (g h : ByteArray) (w : World) (hs : SRow w a n ss) (hlt : ∀ b off, a = some ⟨b, off, none⟩ → 0 < n → b < w.heap.size)
    (hn : n ≤ 65536) (h0 : x0.size ≤ 1048576) (h1 : x1.size ≤ 1048576) (h4 : g.size ≤ 1048576) (h5 : h.size ≤ 1048576) (hi : i ≤ n) :
    Calls Try.prog 3 #[.string x0, .string x1, .slice a n c, .int .i64 i, .string g, .string h] w fun e w' => e = .returned (.bool true) ∧ Below w.heap.size w w' := by
  have H : Hid (SRow w a n ss) := hs
  have HL : Hid (∀ b off, a = some ⟨b, off, none⟩ → 0 < n → b < w.heap.size) := hlt
  clear hs hlt
  obtain ⟨i0, hi0, hz0, hz1, hz2⟩ := info_parts Try.info9
  go_enter Try.func3, Try.ntmps3
  go_wp2_with fail
  refine (zzIns_any x0 x1 g h i a n c ss (by omega) _ H.out).mono ?_
  rintro e w1 ⟨⟨b, rfl⟩, hw⟩
  subst hw
  cases b with
  | false =>
    go_wp2
    go_ret
    exact ⟨rfl, Below.refl _ _⟩
  | true =>
  go_wp2_with fail
  refine (sizeFits_any x0 x1 g h a n c ss (by omega) _ H.out).mono ?_
  rintro e w1 ⟨⟨b, rfl⟩, hw⟩
  subst hw
  cases b with
  | false =>
    go_wp2
    go_ret
    exact ⟨rfl, Below.refl _ _⟩
  | true =>
  go_wp2_with (at_make; refine wpList_make_own _ rfl _ _ 22 rfl w1.heap.size 9 i0 (.string ByteArray.empty) 1 Try.underlying22 hi0 hz0 hz1 _ _ _ (n + 1) rfl rfl ?m0 ?m1 ?m2 ?m3 ?_)
  case m0 => simp
  case m1 => rw [hz2]; omega
  case m2 => unfold maxLen; omega
  case m3 => exact Nat.le_refl _
  intro w2 ho2 hg2
  have hb2 : Below w1.heap.size w1 w2 := (Below.refl _ _).grown hg2 (Nat.le_refl _) (by simp)
  have hn65 : (n : Int) ≤ 65536 := by omega
  go_wp2
  clear hg2
  have O2 : Hid (w2.ownsRow w1.heap.size 9 1 (.slice (some ⟨w1.heap.size, 0, none⟩) 0 (n + 1)) 0 (vs (ss.take 0))) := by unfold Hid; simpa [vs] using ho2
  clear ho2
  go_loopw [13, 14] (fun v t wr => ∃ k : Nat, k ≤ i ∧ t = .int .i64 k ∧ v = .slice (some ⟨w1.heap.size, 0, none⟩) k (n + 1) ∧ wr.ownsRow w1.heap.size 9 1 (.slice (some ⟨w1.heap.size, 0, none⟩) k (n + 1)) k (vs (ss.take k)) ∧ Below w1.heap.size w1 wr) (fun _ t _ => i - (intOf t).toNat)
  case atStart => exact ⟨0, Nat.zero_le _, rfl, rfl, O2.out, hb2⟩
  case round =>
    obtain ⟨k, hk, rfl, rfl, hown, hbel⟩ := hrel
    clear O2 hb2
    have hsz := hbel.size
    by_cases hki : k < i
    · obtain ⟨b, off, rfl, hc0⟩ := H.out.2 k (by omega)
      have hc := (hbel.cell (p := ⟨b, off + k, none⟩) (HL.out b off rfl (by omega))).trans hc0
      have ht : Hid (vs (ss.take (k + 1)) = vs (ss.take k) ++ [.string (ss.getD k ByteArray.empty)]) := by
        unfold Hid; rw [take_snoc ss k (by rw [H.out.1]; omega)]; simp [vs]
      clear hc0
      generalize ss.getD k ByteArray.empty = x at hc ht
      go_wp2_with (at_builtin; refine wpList_append_fits _ rfl _ _ 22 rfl w1.heap.size 9 i0 1 Try.underlying22 hi0 hz1 w1.heap.size k (n + 1) (vs (ss.take k)) rfl ?c0 ⟨wr.heap.size, 0, none⟩ 1 1 [.string x] rfl ?c2 ?c3 ?c4 ?c5 ?_)
      case c0 => exact hown.alloc _
      case c2 => rfl
      case c3 => exact cell_one_new _ _ _
      case c4 => intro u hu; simp at hu; subst hu; rfl
      case c5 => omega
      intro w3 ho3 hg3
      have hb3 : Hid (Below w1.heap.size w1 w3) := (hbel.alloc hsz _).grown hg3 (by simp; omega) (by simp)
      rw [← ht.out] at ho3
      have O3 : Hid _ := ho3
      clear ho3 hg3 hown hbel hc ht
      go_wp2
      go_roundw
      case rel => exact ⟨k + 1, by omega, by go_num, rfl, O3.out, hb3.out⟩
      case measure => simp [intOf]; omega
    · have ek : k = i := by omega
      subst ek
      clear hki
      go_wp2_with (at_builtin; refine wpList_append_fits _ rfl _ _ 22 rfl w1.heap.size 9 i0 1 Try.underlying22 hi0 hz1 w1.heap.size k (n + 1) (vs (ss.take k)) rfl ?d0 ⟨wr.heap.size, 0, none⟩ 1 1 [.string g] rfl ?d2 ?d3 ?d4 ?d5 ?_)
      case d0 => exact hown.alloc _
      case d2 => rfl
      case d3 => exact cell_one_new _ _ _
      case d4 => intro u hu; simp at hu; subst hu; rfl
      case d5 => omega
      intro w3 ho3 hg3
      have hb3 : Hid (Below w1.heap.size w1 w3) := (hbel.alloc hsz _).grown hg3 (by simp; omega) (by simp)
      have O3 : Hid (w3.ownsRow w1.heap.size 9 1 (.slice (some ⟨w1.heap.size, 0, none⟩) (k + 1) (n + 1)) (k + 1) (vs (mid ss k k g))) := by
        unfold Hid; rw [← mid_start]; exact ho3
      clear ho3 hg3 hown hbel
      go_wp2
      go_loopw [13, 15] (fun v t wr => ∃ m : Nat, k ≤ m ∧ m ≤ n ∧ t = .int .i64 m ∧ v = .slice (some ⟨w1.heap.size, 0, none⟩) (m + 1) (n + 1) ∧ wr.ownsRow w1.heap.size 9 1 (.slice (some ⟨w1.heap.size, 0, none⟩) (m + 1) (n + 1)) (m + 1) (vs (mid ss k m g)) ∧ Below w1.heap.size w1 wr) (fun _ t _ => n - (intOf t).toNat)
      case atStart => exact ⟨k, Nat.le_refl _, hi, rfl, rfl, O3.out, hb3.out⟩
      case round =>
        obtain ⟨m, hkm, hm, rfl, rfl, hown, hbel⟩ := hrel
        clear O3 hb3
        have hsz := hbel.size
        by_cases hmn : m < n
        · obtain ⟨b, off, rfl, hc0⟩ := H.out.2 m hmn
          have hc := (hbel.cell (p := ⟨b, off + m, none⟩) (HL.out b off rfl (by omega))).trans hc0
          have ht : Hid _ := mid_step ss k m g hkm (by rw [H.out.1]; omega)
          clear hc0
          generalize ss.getD m ByteArray.empty = x at hc ht
          go_wp2_with (at_builtin; refine wpList_append_fits _ rfl _ _ 22 rfl w1.heap.size 9 i0 1 Try.underlying22 hi0 hz1 w1.heap.size (m + 1) (n + 1) (vs (mid ss k m g)) rfl ?e0 ⟨wr.heap.size, 0, none⟩ 1 1 [.string x] rfl ?e2 ?e3 ?e4 ?e5 ?_)
          case e0 => exact hown.alloc _
          case e2 => rfl
          case e3 => exact cell_one_new _ _ _
          case e4 => intro u hu; simp at hu; subst hu; rfl
          case e5 => omega
          intro w3 ho3 hg3
          have hb3 : Hid (Below w1.heap.size w1 w3) := (hbel.alloc hsz _).grown hg3 (by simp; omega) (by simp)
          rw [← ht.out] at ho3
          have O3 : Hid _ := ho3
          clear ho3 hg3 hown hbel hc ht
          go_wp2
          go_roundw
          case rel => exact ⟨m + 1, by omega, by omega, by go_num, rfl, O3.out, hb3.out⟩
          case measure => simp [intOf]; omega
        · have em : m = n := by omega
          subst em
          have e1 : mid ss k m g = put ss k g := by have := mid_end ss k g; rw [H.out.1] at this; exact this
          rw [e1] at hown
          have hl1 : (put ss k g).length = m + 1 := by rw [put_len, H.out.1]
          have S1 : Hid (SRow wr (some ⟨w1.heap.size, 0, none⟩) (m + 1) (put ss k g)) := srow_own hown hl1
          have S2 : Hid (SRow wr a m ss) := srow_below H.out hbel HL.out
          have hG := (own_lt hown).2
          have tb := two_boxes wr (.string x0) (.string x1) (.slice a m c) (.map none) (.string x0) (.string x1) (.slice (some ⟨w1.heap.size, 0, none⟩) (m + 1) (m + 1)) (.map none)
          have S1' := srow_below S1.out tb.2.2 (by intro b off hb _; simp at hb; omega)
          have S2' := srow_below S2.out tb.2.2 (by intro b off hb h0; exact Nat.lt_of_lt_of_le (HL.out b off hb h0) hsz)
          have B1 : Hid (Below w1.heap.size w1 _) := hbel.trans (tb.2.2.mono hsz)
          have P1 : Hid _ := tb.2.1
          have P2 : Hid _ := tb.1
          have T1 : Hid _ := S1'
          have T2 : Hid _ := S2'
          have hself : Hid _ := put_self ss k g
          clear hown hbel e1 hl1 hmn tb S1' S2' S1 S2
          by_cases hgh : (h.toList == g.toList) = true
          · have hv : Hid _ := put_same ss k g h hgh
            go_wp2_with fail
            refine (inGroup_any (wr.heap.size + 1) g _ _ _ (put ss k g) (by omega) _ P1.out T1.out).mono ?_
            rintro e w5 ⟨rfl, hw⟩
            subst hw
            rw [hself.out]
            go_wp2_with fail
            refine (inGroup_any (wr.heap.size + 1) h _ _ _ (put ss k g) (by omega) _ P1.out T1.out).mono ?_
            rintro e w5 ⟨rfl, hw⟩
            subst hw
            rw [hv.out]
            go_wp2
            go_ret
            exact ⟨rfl, B1.out⟩
          · have hgh' : (h.toList == g.toList) = false := by simpa using hgh
            clear hgh
            have hv : Hid _ := put_other ss k g h hgh'
            go_wp2_with fail
            refine (inGroup_any (wr.heap.size + 1) g _ _ _ (put ss k g) (by omega) _ P1.out T1.out).mono ?_
            rintro e w5 ⟨rfl, hw⟩
            subst hw
            rw [hself.out]
            go_wp2_with fail
            refine (inGroup_any (wr.heap.size + 1) h _ _ _ (put ss k g) (by omega) _ P1.out T1.out).mono ?_
            rintro e w5 ⟨rfl, hw⟩
            subst hw
            rw [hv.out]
            go_wp2_with fail
            refine (inGroup_any wr.heap.size h _ _ _ ss (by omega) _ P2.out T2.out).mono ?_
            rintro e w5 ⟨rfl, hw⟩
            subst hw
            cases inG ss h <;> (go_wp2; go_ret; exact ⟨rfl, B1.out⟩)
end Go.Proofs.Qxb6628506a
