import Derived.Test.Qxb6628550aRead
import Derived.Deep.DeepCutAuto
namespace Go.Proofs.Qxb6628550a
open Go.RowKit
set_option linter.unusedVariables false
set_option linter.unusedSimpArgs false

/-- The call comes back with a bool, whichever. -/
def IsBool (e : Ending) : Prop := ∃ b : Bool, e = .returned (.bool b)

theorem zzSplit_any (a0 a3 : Int) (a : Option Addr) (n c : Nat) (m : Bool) (hn : n ≤ 9223372036854775807) (w : World) :
    Calls Try.prog 9 #[.int .u64 a0, .slice a n c, .bool m, .int .i64 a3] w fun e w' => IsBool e ∧ w' = w := by
  go_enter Try.func9, Try.ntmps9
  go_wp2
  all_goals (go_ret; exact ⟨⟨_, rfl⟩, rfl⟩)

theorem own_shape {w : World} {base : Nat} {e : TypeId} {size : Nat} {v : Value} {n : Nat} {xs : List Value} (h : w.ownsRow base e size v n xs) (hn : 0 < n) :
    ∃ g cap, v = .slice (some ⟨g, 0, none⟩) n cap ∧ base ≤ g ∧ g < w.heap.size := by
  rcases h.2 with ⟨_, h0⟩ | ⟨g, cap, cur, hv, hg, hh, _⟩
  · omega
  · exact ⟨g, cap, hv, hg, (Array.getElem?_eq_some_iff.1 hh).1⟩
theorem row_own {w : World} {base g n cap : Nat} {l : List Nat} (h : w.ownsRow base 5 1 (.slice (some ⟨g, 0, none⟩) n cap) n (bs l)) (hn : n = l.length) : Row w g l := by
  subst hn
  intro j hj
  rw [h.cellAt j (by omega)]
  exact bs_get l j hj
theorem row_keep {B : Nat} {w w' : World} {g : Nat} {l : List Nat} (h : Row w g l) (hb : Below B w w') (hg : g < B) : Row w' g l :=
  fun j hj => (hb.cell (p := ⟨g, j, none⟩) hg).trans (h j hj)

/-- AppendLinks on nil: a fresh row of bytes. -/
theorem links_nil (m c base : Nat) (a : Option Addr) (ps : List Nat) (more : Bool) (w : World) (hb : base < 18446744073709551616) (hm : m ≤ 1048576)
    (hp : URow w a m ps) (hlt : ∀ b off, a = some ⟨b, off, none⟩ → 0 < m → b < w.heap.size) :
    Calls Try.prog 7 #[.slice none 0 0, .int .u64 base, .agg #[.slice a m c, .bool more]] w fun e w' => ∃ g cap, e = .returned (.slice (some ⟨g, 0, none⟩) (Plain.links base ps more).length cap) ∧
      Row w' g (Plain.links base ps more) ∧ g < w'.heap.size ∧ Below w.heap.size w w' := by
  refine (links_any 0 m c base (.slice none 0 0) [] a ps more w hb (Or.inl ⟨rfl, rfl, rfl⟩) (by omega) hm hp hlt).mono ?_
  rintro e w' ⟨v', rfl, ho, hbel⟩
  rw [Nat.zero_add, List.nil_append] at ho
  obtain ⟨g, cap, hv, hg1, hg2⟩ := own_shape ho (by have := (Plain.uv_len (Plain.hdr ps.length more)).1; simp [Plain.links]; omega)
  rw [hv] at ho
  exact ⟨g, cap, by rw [hv], row_own ho rfl, hg2, hbel⟩

theorem urow_take {w : World} {a : Option Addr} {n k : Nat} {ps : List Nat} (h : URow w a n ps) (hk : k ≤ n) : URow w a k (ps.take k) := by
  have h1 := h.1
  refine ⟨by simp; omega, fun j => ?_, fun j hj => ?_⟩
  · by_cases hj : j < k
    · have := h.2.1 j; simpa [List.getD, List.getElem?_take, hj] using this
    · simp [List.getD, List.getElem?_take, hj]
  · obtain ⟨b, off, ha, hc⟩ := h.2.2 j (by omega)
    refine ⟨b, off, ha, ?_⟩
    rw [hc]; simp [List.getD, List.getElem?_take, hj]

theorem getD_drop (ps : List Nat) (k j : Nat) : (ps.drop k).getD j 0 = ps.getD (k + j) 0 := by simp [List.getD, List.getElem?_drop]
/-- 'prev[k:]': where an element is left the address has moved on by k. -/
theorem urow_drop {w : World} {a a' : Option Addr} {n k : Nat} {ps : List Nat} (h : URow w a n ps) (hk : k ≤ n) (ha : ∀ b off, a = some ⟨b, off, none⟩ → k < n → a' = some ⟨b, off + k, none⟩) : URow w a' (n - k) (ps.drop k) := by
  have h1 := h.1
  refine ⟨by simp; omega, fun j => by rw [getD_drop]; exact h.2.1 _, fun j hj => ?_⟩
  obtain ⟨b, off, hb, hc⟩ := h.2.2 (k + j) (by omega)
  refine ⟨b, off + k, ha b off hb (by omega), ?_⟩
  rw [getD_drop, Nat.add_assoc]
  exact hc

theorem hdr_f (n : Nat) : ((Plain.hdr n false : Nat) : Int) = (n : Int) * 2 := by unfold Plain.hdr; simp; omega
theorem hdr_t (n : Nat) : ((Plain.hdr n true : Nat) : Int) = (n : Int) * 2 + 1 := by unfold Plain.hdr; simp; omega
theorem hdr_lt' (n : Nat) (more : Bool) (h : n ≤ 1048576) : Plain.hdr n more < 18446744073709551616 := by have := Plain.hdr_lt n more h; omega
/-- The reader at the head of a row. -/
theorem read0_any (g cap x : Nat) (l rest : List Nat) (hx : x < 18446744073709551616) (hl : l.length ≤ 1152921504606846976) (hd : l = Plain.uv x ++ rest) (w : World) (hr : Row w g l) :
    Calls Try.prog 8 #[.slice (some ⟨g, 0, none⟩) l.length cap, .int .i64 0] w fun e w' => e = .returned (.tuple #[.int .u64 x, .int .i64 ((Plain.uv x).length : Nat), .bool true]) ∧ w' = w := by
  have h := read_any g cap 0 x l rest hx hl (by omega) (by simpa using hd) w hr
  simpa using h
theorem getD_right (a b : List Nat) (j : Nat) : (a ++ b).getD (a.length + j) 0 = b.getD j 0 := by
  simp [List.getD, List.getElem?_append_right]
theorem getD_left (a b : List Nat) (j : Nat) (h : j < a.length) : (a ++ b).getD j 0 = a.getD j 0 := by
  simp [List.getD, List.getElem?_append_left h]

set_option maxRecDepth 20000 in
set_option maxHeartbeats 1600000 in
theorem split_in (base n c k : Nat) (a : Option Addr) (ps : List Nat) (more : Bool) (w : World) (hb : base < 18446744073709551616) (hn : n ≤ 131072) (hnc : n ≤ c) (hcm : c ≤ 9223372036854775807) (hk : k ≤ n)
    (hnone : a = none → n = 0 ∧ c = 0) (hp : URow w a n ps) (hlt : ∀ b off, a = some ⟨b, off, none⟩ → 0 < n → b < w.heap.size) :
    Calls Try.prog 4 #[.int .u64 base, .slice a n c, .bool more, .int .i64 k] w fun e w' => e = .returned (.bool true) ∧ Below w.heap.size w w' := by
  have HP := hid hp
  have HL := hid hlt
  have HN := hid hnone
  clear hp hlt hnone
  go_enter Try.func4, Try.ntmps4
  go_wp2_with fail
  refine (zzSplit_any base k a n c more (by omega) _).mono ?_
  rintro e w1 ⟨⟨b, rfl⟩, hw⟩
  subst hw
  cases b with
  | false =>
    go_wp2
    go_ret
    exact ⟨rfl, Below.refl _ _⟩
  | true =>
  go_wp2_with fail
  refine (links_nil n c base a ps more _ hb (by omega) HP.out HL.out).mono ?_
  rintro e w2 ⟨g1, c1, rfl, hr1, hg1, hb1⟩
  go_wp2_with fail
  have HP2 := hid (urow_below HP.out hb1 HL.out)
  have HL2 : Hid (∀ b off, a = some ⟨b, off, none⟩ → 0 < n → b < w2.heap.size) := fun b off e h0 => Nat.lt_of_lt_of_le (HL.out b off e h0) hb1.size
  refine (links_nil k c base a (ps.take k) true _ hb (by omega) (urow_take HP2.out hk) (fun b off e h0 => HL2.out b off e (by omega))).mono ?_
  rintro e w3 ⟨g2, c2, rfl, hr2, hg2, hb2⟩
  have HP3 := hid (urow_below HP2.out hb2 HL2.out)
  have HL3 : Hid (∀ b off, a = some ⟨b, off, none⟩ → 0 < n → b < w3.heap.size) := fun b off e h0 => Nat.lt_of_lt_of_le (HL2.out b off e h0) hb2.size
  have R1 := hid (row_keep hr1 hb2 hg1)
  have R2 := hid hr2
  have hg1' : g1 < w3.heap.size := Nat.lt_of_lt_of_le hg1 hb2.size
  have B3 := hid (hb1.trans (hb2.mono hb1.size))
  clear hr1 hr2 hb1 hb2 hg1
  have HMD : Hid (Plain.lastOr base (ps.take k) < 18446744073709551616) := lastOr_lt base ps k hb HP.out.2.1 (by rw [HP.out.1]; exact hk)
  go_upto_if 59 with fail
  go_cut [11] (fun s11 wx => s11 = .int .u64 (Plain.lastOr base (ps.take k) : Nat) ∧ wx = w3)
  case first =>
    by_cases hk0 : k = 0
    · have hn0 : ¬ (0 : Int) < (k : Int) := by omega
      have hmid : Hid (Plain.lastOr base (ps.take k) = base) := by unfold Hid; rw [hk0]; rfl
      clear hk0
      go_wp2
      go_meet
      case rel => exact ⟨by rw [hmid.out], rfl⟩
    · obtain ⟨b, off, rfl, hc⟩ := HP3.out.2.2 (k - 1) (by omega)
      have hmid : Hid (Plain.lastOr base (ps.take k) = ps.getD (k - 1) 0) := by
        have h := Plain.lastOr_take base ps (k - 1) (by have := HP.out.1; omega)
        rwa [show k - 1 + 1 = k by omega] at h
      generalize ps.getD (k - 1) 0 = md at hc hmid
      have hkp : 0 < k := by omega
      go_wp2
      go_meet
      case rel => exact ⟨by rw [hmid.out], rfl⟩
  case rest =>
  obtain ⟨rfl, hw⟩ := hcut
  have hw' := hw.symm
  subst hw'
  clear hw
  go_upto_region 12 with fail
  go_cut [12] (fun s12 wx => ∃ g c3 : Nat, s12 = .slice (some ⟨g, 0, none⟩) (Plain.links (Plain.lastOr base (ps.take k)) (ps.drop k) more).length c3 ∧ Row wx g (Plain.links (Plain.lastOr base (ps.take k)) (ps.drop k) more) ∧ g < wx.heap.size ∧ Below w3.heap.size w3 wx)
  case first =>
    generalize Plain.lastOr base (ps.take k) = md at *
    cases a with
    | none =>
      obtain ⟨rfl, rfl⟩ := HN.out rfl
      obtain rfl : k = 0 := by omega
      go_wp2_with fail
      refine (links_nil _ _ md none (ps.drop 0) more _ HMD.out (by omega) HP3.out (fun b off e h0 => HL3.out b off e h0)).mono ?_
      rintro e w4 ⟨g3, c3, rfl, hr3, hg3, hb3⟩
      go_wp2
      go_meet
      case rel => exact ⟨g3, c3, rfl, hr3, hg3, hb3⟩
    | some ad =>
      have hU := hid (fun (a' : Option Addr) (h : ∀ b off, some ad = some ⟨b, off, none⟩ → k < n → a' = some ⟨b, off + k, none⟩) => urow_drop HP3.out hk h)
      by_cases hck : c = k
      · subst hck
        go_wp2_with fail
        have hU0 : URow w3 (some ad) 0 (ps.drop c) := by
          have := hU.out (some ad) (by intro b off e h0; omega)
          rwa [show n - c = 0 by omega] at this
        refine (links_nil 0 _ md _ (ps.drop c) more _ HMD.out (by omega) hU0 (by intro b off e h0; omega)).mono ?_
        rintro e w4 ⟨g3, c3, rfl, hr3, hg3, hb3⟩
        go_wp2
        go_meet
        case rel => exact ⟨g3, c3, rfl, hr3, hg3, hb3⟩
      · go_wp2_with fail
        refine (links_nil (n - k) _ md _ (ps.drop k) more _ HMD.out (by omega) (hU.out _ ?hx3) ?hx4).mono ?_
        case hx3 => intro b off e h0; simp at e; rw [e, Addr.add_lit]
        case hx4 =>
          intro b off e h0
          obtain ⟨b', off', e', _⟩ := HP3.out.2.2 0 (by omega)
          have := HL3.out b' off' e' (by omega)
          simp at e e'
          rw [e', Addr.add_lit] at e
          simp at e
          omega
        rintro e w4 ⟨g3, c3, rfl, hr3, hg3, hb3⟩
        go_wp2
        go_meet
        case rel => exact ⟨g3, c3, rfl, hr3, hg3, hb3⟩
  case rest =>
  obtain ⟨g3, c3, rfl, hr3, hg3, hb3⟩ := hcut
  have hpl : Hid (ps.length = n) := HP.out.1
  have htl : (ps.take k).length = k := by rw [List.length_take, hpl.out]; omega
  have hdl : (ps.drop k).length = n - k := by rw [List.length_drop, hpl.out]
  have hbw := Plain.links_len base ps more
  have hbl := Plain.links_len base (ps.take k) true
  have hbr := Plain.links_len (Plain.lastOr base (ps.take k)) (ps.drop k) more
  rw [hpl.out] at hbw
  rw [htl] at hbl
  rw [hdl] at hbr
  have EW : Hid (Plain.links base ps more = Plain.uv (Plain.hdr n more) ++ (Plain.gaps base (ps.take k) ++ Plain.gaps (Plain.lastOr base (ps.take k)) (ps.drop k))) := by
    unfold Hid Plain.links; rw [hpl.out, ← Plain.split_gaps]
  have EL : Hid (Plain.links base (ps.take k) true = Plain.uv (Plain.hdr k true) ++ Plain.gaps base (ps.take k)) := by unfold Hid Plain.links; rw [htl]
  have ER : Hid (Plain.links (Plain.lastOr base (ps.take k)) (ps.drop k) more = Plain.uv (Plain.hdr (n - k) more) ++ Plain.gaps (Plain.lastOr base (ps.take k)) (ps.drop k)) := by unfold Hid Plain.links; rw [hdl]
  have S1 := hid (row_keep R1.out hb3 hg1')
  have S2 := hid (row_keep R2.out hb3 hg2)
  have S3 := hid hr3
  have B4 := hid (B3.out.trans (hb3.mono B3.out.size))
  clear R1 R2 hr3 hb3 B3 HP HL HP2 HP3 HL2 HL3 HMD HN htl hdl hpl
  have hlw := hdr_lt' n more (by omega)
  have hll := hdr_lt' k true (by omega)
  have hlr := hdr_lt' (n - k) more (by omega)
  generalize Plain.links base ps more = LW at *
  generalize Plain.links base (ps.take k) true = LL at *
  generalize Plain.links (Plain.lastOr base (ps.take k)) (ps.drop k) more = LR at *
  generalize Plain.gaps base (ps.take k) = GL at *
  generalize Plain.gaps (Plain.lastOr base (ps.take k)) (ps.drop k) = GR at *
  have o1 := u64_or1 n (by omega)
  go_upto_if 76 with fail
  go_cut [13] (fun s13 wx => s13 = .int .u64 (Plain.hdr n more : Nat) ∧ wx = wc)
  case first =>
    have e0 := hid (hdr_f n)
    have e1 := hid (hdr_t n)
    cases more
    · go_wp2
      go_meet
      case rel => exact ⟨by rw [e0.out], rfl⟩
    · go_wp2
      go_meet
      case rel => exact ⟨by rw [e1.out], rfl⟩
  case rest =>

  obtain ⟨rfl, hw⟩ := hcut
  obtain ⟨w4, hw4⟩ : ∃ w4, w4 = wc := ⟨_, rfl⟩
  subst hw
  subst hw4
  have o2 := u64_or1 k (by omega)
  have o3 := u64_or1 (n - k) (by omega)
  rw [show ((n - k : Nat) : Int) = (n : Int) - (k : Int) by omega] at o3
  have hLk := hid (hdr_t k)
  rw [← hLk.out] at o2
  go_upto_if 89 with fail
  go_cut [15] (fun s15 wx => s15 = .int .u64 (Plain.hdr (n - k) more : Nat) ∧ wx = w4)
  case first =>
    have e0 := hid (hdr_f (n - k))
    have e1 := hid (hdr_t (n - k))
    cases more
    · go_wp2
      go_meet
      case rel => exact ⟨by rw [e0.out]; go_num, rfl⟩
    · go_wp2
      go_meet
      case rel => exact ⟨by rw [e1.out]; go_num, rfl⟩
  case rest =>
  obtain ⟨rfl, hw⟩ := hcut
  have hw' := hw.symm
  subst hw'
  clear hw o1 o2 o3 hLk
  generalize Plain.hdr n more = hW at *
  generalize Plain.hdr k true = hL at *
  generalize Plain.hdr (n - k) more = hR at *
  go_wp2_with fail
  refine (read0_any g1 c1 hW LW (GL ++ GR) hlw (by omega) EW.out _ S1.out).mono ?_
  rintro e w5 ⟨rfl, hw⟩
  subst hw
  go_wp2_with fail
  refine (read0_any g2 c2 hL LL GL hll (by omega) EL.out _ S2.out).mono ?_
  rintro e w5 ⟨rfl, hw⟩
  subst hw
  go_wp2_with fail
  refine (read0_any g3 c3 hR LR GR hlr (by omega) ER.out _ S3.out).mono ?_
  rintro e w5 ⟨rfl, hw⟩
  obtain ⟨w6, hw6⟩ : ∃ w6, w6 = w5 := ⟨_, rfl⟩
  subst hw
  subst hw6
  have qw : Hid (LW.length = (Plain.uv hW).length + (GL.length + GR.length)) := by unfold Hid; rw [EW.out]; simp
  have ql : Hid (LL.length = (Plain.uv hL).length + GL.length) := by unfold Hid; rw [EL.out]; simp
  have qr : Hid (LR.length = (Plain.uv hR).length + GR.length) := by unfold Hid; rw [ER.out]; simp
  have xw : Hid (∀ j, LW.getD ((Plain.uv hW).length + j) 0 = (GL ++ GR).getD j 0) := by intro j; rw [EW.out]; exact getD_right _ _ j
  have xl : Hid (∀ j, LL.getD ((Plain.uv hL).length + j) 0 = GL.getD j 0) := by intro j; rw [EL.out]; exact getD_right _ _ j
  have xr : Hid (∀ j, LR.getD ((Plain.uv hR).length + j) 0 = GR.getD j 0) := by intro j; rw [ER.out]; exact getD_right _ _ j
  have lw1 := Nat.le_of_eq qw.out
  have lw2 := Nat.le_of_eq qw.out.symm
  have ll1 := Nat.le_of_eq ql.out
  have ll2 := Nat.le_of_eq ql.out.symm
  have lr1 := Nat.le_of_eq qr.out
  have lr2 := Nat.le_of_eq qr.out.symm
  clear EW EL ER hlw hll hlr
  generalize (Plain.uv hW).length = pW at *
  generalize (Plain.uv hL).length = pL at *
  generalize (Plain.uv hR).length = pR at *
  go_upto_region 29 with fail
  go_cut [25] (fun s25 wx => s25 = .int .i64 (GL.length : Nat) ∧ wx = w6)
  case first =>
    go_wp2
    go_meet
    case rel => exact ⟨by go_num, rfl⟩
  case rest =>
  obtain ⟨rfl, hw⟩ := hcut
  have hw' := hw.symm
  subst hw'
  clear hw
  go_upto_region 30 with fail
  go_cut [26] (fun s26 wx => s26 = .int .i64 (GR.length : Nat) ∧ wx = w6)
  case first =>
    go_wp2
    go_meet
    case rel => exact ⟨by go_num, rfl⟩
  case rest =>
  obtain ⟨rfl, hw⟩ := hcut
  have hw' := hw.symm
  subst hw'
  clear hw
  go_wp2
  go_loopw [27] (fun i wr => ∃ j : Nat, j ≤ GL.length ∧ i = .int .i64 j ∧ ∃ nd, wr = w6.drewN nd) (fun i _ => GL.length - (intOf i).toNat)
  case atStart => exact ⟨0, Nat.zero_le _, rfl, 0, rfl⟩
  case round =>
    obtain ⟨j, hj, rfl, nd, rfl⟩ := hrel
    by_cases hjl : j < GL.length
    · have ca := S1.out (pW + j) (by omega)
      have cb := S2.out (pL + j) (by omega)
      rw [xw.out j, getD_left GL GR j hjl] at ca
      rw [xl.out j] at cb
      generalize GL.getD j 0 = z at ca cb
      have i1 : (pW : Int) + (j : Int) < (LW.length : Int) := by omega
      have i2 : (pL : Int) + (j : Int) < (LL.length : Int) := by omega
      go_wp2
      go_quiet (fail)
      go_wp2
      go_roundw
      case rel => exact ⟨j + 1, by omega, by go_num, _, rfl⟩
      case measure => simp [intOf]; omega
    · have hge : GL.length ≤ j := by omega
      go_wp2
      go_loopw [28] (fun i wr => ∃ j : Nat, j ≤ GR.length ∧ i = .int .i64 j ∧ ∃ nd, wr = w6.drewN nd) (fun i _ => GR.length - (intOf i).toNat)
      case atStart => exact ⟨0, Nat.zero_le _, rfl, _, rfl⟩
      case round =>
        obtain ⟨i, hi, rfl, ne, rfl⟩ := hrel
        by_cases hil : i < GR.length
        · have ca := S1.out (pW + (GL.length + i)) (by omega)
          have cb := S3.out (pR + i) (by omega)
          rw [xw.out, getD_right GL GR i, ← Nat.add_assoc] at ca
          rw [xr.out i] at cb
          generalize GR.getD i 0 = z at ca cb
          have i1 : (pW : Int) + (GL.length : Int) + (i : Int) < (LW.length : Int) := by omega
          have i2 : (pR : Int) + (i : Int) < (LR.length : Int) := by omega
          go_wp2
          go_quiet (fail)
          go_wp2
          go_roundw
          case rel => exact ⟨i + 1, by omega, by go_num, _, rfl⟩
          case measure => simp [intOf]; omega
        · go_wp2
          go_ret
          exact ⟨rfl, below_drewN B4.out _⟩
end Go.Proofs.Qxb6628550a
