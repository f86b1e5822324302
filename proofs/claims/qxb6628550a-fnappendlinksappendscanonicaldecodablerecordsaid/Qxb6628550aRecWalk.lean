import Derived.Test.Qxb6628550aRecord
namespace Go.Proofs.Qxb6628550a
open Go.RowKit
set_option linter.unusedVariables false
set_option linter.unusedSimpArgs false

theorem full_below {B : Nat} {w w' : World} {a : Option Addr} {n : Nat} {xs : List Value} (h : Full w (.slice a n n) n xs) (hb : Below B w w') (hlt : ∀ b off, a = some ⟨b, off, none⟩ → b < B) : Full w' (.slice a n n) n xs := by
  rcases h with h | ⟨g, hv, hl, hc⟩
  · exact Or.inl h
  · simp only [Value.slice.injEq, and_true] at hv
    exact Or.inr ⟨g, by rw [hv], hl, fun j u hj => (hb.cell (p := ⟨g, j, none⟩) (hlt g 0 hv)).trans (hc j u hj)⟩
/-- AppendLinks on a full slice. -/
theorem links_full (n m c base : Nat) (a' : Option Addr) (xs : List Nat) (a : Option Addr) (ps : List Nat) (more : Bool) (w : World) (hb : base < 18446744073709551616) (hr : Full w (.slice a' n n) n (bs xs)) (hx : xs.length = n) (hn : n ≤ 1048576) (hm : m ≤ 1048576)
    (hp : URow w a m ps) (hlt : ∀ b off, a = some ⟨b, off, none⟩ → 0 < m → b < w.heap.size) :
    Calls Try.prog 7 #[.slice a' n n, .int .u64 base, .agg #[.slice a m c, .bool more]] w fun e w' => ∃ g cap LL, Hid (LL = xs ++ Plain.links base ps more) ∧ e = .returned (.slice (some ⟨g, 0, none⟩) LL.length cap) ∧
      Row w' g LL ∧ g < w'.heap.size ∧ Below w.heap.size w w' := by
  refine (links_any n m c base (.slice a' n n) xs a ps more w hb hr hn hm hp hlt).mono ?_
  rintro e w' ⟨v', rfl, ho, hbel⟩
  have hlen : n + (Plain.links base ps more).length = (xs ++ Plain.links base ps more).length := by rw [List.length_append, hx]
  rw [hlen] at ho
  obtain ⟨g, cap, hv, hg1, hg2⟩ := own_shape ho (by have := (Plain.uv_len (Plain.hdr ps.length more)).1; simp [Plain.links]; omega)
  rw [hv] at ho
  exact ⟨g, cap, _, rfl, by rw [hv], row_own ho rfl, hg2, hbel⟩

theorem ret_bool {a b : Bool} (h : a = b) : Ending.returned (.bool a) = .returned (.bool b) := by rw [h]
theorem wrap_back (b p : Nat) (hb : b < 18446744073709551616) (hp : p < 18446744073709551616) : IntKind.u64.wrap ((b : Int) - ((Plain.gap b p : Nat) : Int)) = (p : Int) := by
  have h1 := Plain.gap_back b p hb hp
  have h2 := Plain.gap_lt b p
  generalize Plain.gap b p = g at *
  rw [IntKind.wrap_u64]
  have e : ((b : Int) - (g : Int)) % 18446744073709551616 = (((b + 18446744073709551616 - g) % 18446744073709551616 : Nat) : Int) := by
    rw [Int.natCast_emod]
    rw [show ((b + 18446744073709551616 - g : Nat) : Int) = ((b : Int) - (g : Int)) + 18446744073709551616 by omega]
    simp
  rw [e, h1]

set_option maxRecDepth 20000 in
set_option maxHeartbeats 1600000 in
theorem rec_in (base n c m d : Nat) (a0 : Option Addr) (l : List Nat) (a : Option Addr) (ps : List Nat) (more : Bool) (w : World) (hb : base < 18446744073709551616) (hn : n ≤ 524288) (hm : m ≤ 65536)
    (hl : BRow w a0 n l) (hnone : a0 = none → n = 0) (hlt0 : ∀ b off, a0 = some ⟨b, off, none⟩ → 0 < n → b < w.heap.size)
    (hp : URow w a m ps) (hlt : ∀ b off, a = some ⟨b, off, none⟩ → 0 < m → b < w.heap.size) :
    Calls Try.prog 3 #[.slice a0 n c, .int .u64 base, .slice a m d, .bool more] w fun e w' => e = .returned (.bool true) ∧ Below w.heap.size w w' := by
  have HB0 := hid hl
  have HL0 := hid hlt0
  have HN := hid hnone
  have HP := hid hp
  have HL := hid hlt
  clear hl hnone hlt0 hp hlt
  go_enter Try.func3, Try.ntmps3
  go_wp2_with fail
  refine (zzRec_any base a0 a n c m d more (by omega) (by omega) _).mono ?_
  rintro e w1 ⟨⟨b, rfl⟩, hw⟩
  subst hw
  cases b with
  | false =>
    go_wp2
    go_ret
    exact ⟨rfl, Below.refl _ _⟩
  | true =>
  go_wp2_with fail
  refine (clone_any a0 n c l (by omega) _ HB0.out HN.out HL0.out).mono ?_
  rintro e w2 ⟨v1, rfl, ⟨b1, rfl, hr1, hf1, hn1, hx1⟩, hb1⟩
  go_wp2_with fail
  refine (clone_any b1 n n l (by omega) _ hr1 hn1 (fun b off e h0 => (hx1 b off e).2)).mono ?_
  rintro e w3 ⟨v2, rfl, ⟨b2, rfl, hr2, hf2, hn2, hx2⟩, hb2⟩
  have P3 := hid (urow_below (urow_below HP.out hb1 HL.out) hb2 (fun b off e h0 => Nat.lt_of_lt_of_le (HL.out b off e h0) hb1.size))
  have L3 : Hid (∀ b off, a = some ⟨b, off, none⟩ → 0 < m → b < w3.heap.size) := fun b off e h0 => Nat.lt_of_lt_of_le (HL.out b off e h0) (Nat.le_trans hb1.size hb2.size)
  have F3 := hid (full_below hf1 hb2 (fun b off e => (hx1 b off e).2))
  have W3 := hid hr2
  have X3 : Hid (∀ b off, b2 = some ⟨b, off, none⟩ → 0 < n → b < w3.heap.size) := fun b off e h0 => (hx2 b off e).2
  have B3 := hid (hb1.trans (hb2.mono hb1.size))
  have hll : Hid (l.length = n) := HB0.out.1
  clear hr1 hf1 hn1 hx1 hb1 hr2 hf2 hn2 hx2 hb2 HB0 HL0 HN HL
  go_wp2_with fail
  refine (links_full n m d base b1 l a ps more _ hb F3.out hll.out (by omega) (by omega) P3.out L3.out).mono ?_
  rintro e w4 ⟨g3, c3, LL, ELL, rfl, hr3, hg3, hb3⟩
  have P4 := hid (urow_below P3.out hb3 L3.out)
  have L4 : Hid (∀ b off, a = some ⟨b, off, none⟩ → 0 < m → b < w4.heap.size) := fun b off e h0 => Nat.lt_of_lt_of_le (L3.out b off e h0) hb3.size
  have W4 := hid (brow_below W3.out hb3 X3.out)
  have X4 : Hid (∀ b off, b2 = some ⟨b, off, none⟩ → 0 < n → b < w4.heap.size) := fun b off e h0 => Nat.lt_of_lt_of_le (X3.out b off e h0) hb3.size
  have B4 := hid (B3.out.trans (hb3.mono B3.out.size))
  have R4 := hid hr3
  clear hr3 hb3 P3 L3 F3 W3 X3 B3
  go_wp2_with fail
  refine (links_nil m d base a ps more _ hb (by omega) P4.out L4.out).mono ?_
  rintro e w5 ⟨g4, c4, rfl, hr4, hg4, hb4⟩
  have P5 := hid (urow_below P4.out hb4 L4.out)
  have W5 := hid (brow_below W4.out hb4 X4.out)
  have B5 := hid (B4.out.trans (hb4.mono B4.out.size))
  have R5 := hid (row_keep R4.out hb4 hg3)
  have O5 := hid hr4
  clear hr4 hb4 P4 L4 W4 X4 B4 R4
  have hbw := Plain.links_len base ps more
  have hpl : Hid (ps.length = m) := HP.out.1
  rw [hpl.out] at hbw
  have hps : Hid (∀ j, ps.getD j 0 < 18446744073709551616) := HP.out.2.1
  have EW : Hid (Plain.links base ps more = Plain.uv (Plain.hdr m more) ++ Plain.gaps base ps) := by unfold Hid Plain.links; rw [hpl.out]
  clear HP
  have hlw := hdr_lt' m more (by omega)
  generalize Plain.links base ps more = L at *
  have q1 : LL.length ≤ n + L.length := by rw [ELL.out, List.length_append, hll.out]; omega
  have q2 : n + L.length ≤ LL.length := by rw [ELL.out, List.length_append, hll.out]; omega
  have xa : Hid (∀ j, j < n → LL.getD j 0 = l.getD j 0) := fun j hj => by rw [ELL.out]; exact getD_left l L j (by rw [hll.out]; omega)
  have xb : Hid (∀ j, LL.getD (n + j) 0 = L.getD j 0) := fun j => by rw [ELL.out]; have := getD_right l L j; rwa [hll.out] at this
  clear ELL
  have hne : ((LL.length : Int) != (n : Int) + (L.length : Int)) = false := by rw [bne_eq_false_iff_eq]; omega
  go_wp2
  go_loopw [12] (fun i wr => ∃ j : Nat, j ≤ n ∧ i = .int .i64 j ∧ ∃ nd, wr = w5.drewN nd) (fun i _ => n - (intOf i).toNat)
  case atStart => exact ⟨0, Nat.zero_le _, rfl, 0, rfl⟩
  case round =>
    obtain ⟨j, hj, rfl, nd, rfl⟩ := hrel
    by_cases hjl : j < n
    · have ca := R5.out j (by omega)
      obtain ⟨b, off, rfl, cb⟩ := W5.out.2 j hjl
      rw [xa.out j hjl] at ca
      generalize l.getD j 0 = z at ca cb
      have i1 : (j : Int) < (LL.length : Int) := by omega
      have i2 : (j : Int) < (n : Int) := by omega
      go_wp2
      go_quiet (fail)
      go_wp2
      go_roundw
      case rel => exact ⟨j + 1, by omega, by go_num, _, rfl⟩
      case measure => simp [intOf]; omega
    · go_wp2
      clear W5
      go_loopw [13] (fun i wr => ∃ j : Nat, j ≤ L.length ∧ i = .int .i64 j ∧ ∃ nd, wr = w5.drewN nd) (fun i _ => L.length - (intOf i).toNat)
      case atStart => exact ⟨0, Nat.zero_le _, rfl, _, rfl⟩
      case round =>
        obtain ⟨i, hi, rfl, ne, rfl⟩ := hrel
        by_cases hil : i < L.length
        · have ca := R5.out (n + i) (by omega)
          have cb := O5.out i hil
          rw [xb.out i] at ca
          generalize L.getD i 0 = z at ca cb
          have i1 : (n : Int) + (i : Int) < (LL.length : Int) := by omega
          have i2 : (i : Int) < (L.length : Int) := by omega
          go_wp2
          go_quiet (fail)
          go_wp2
          go_roundw
          case rel => exact ⟨i + 1, by omega, by go_num, _, rfl⟩
          case measure => simp [intOf]; omega
        · have o1 := u64_or1 m (by omega)
          go_upto_if 95 with fail
          go_cut [14] (fun s14 wx => s14 = .int .u64 (Plain.hdr m more : Nat) ∧ wx = w5.drewN ne)
          case first =>
            have e0 := hid (hdr_f m)
            have e1 := hid (hdr_t m)
            cases more
            · go_wp2
              go_meet
              case rel => exact ⟨by rw [e0.out], rfl⟩
            · go_wp2
              go_meet
              case rel => exact ⟨by rw [e1.out], rfl⟩
          case rest =>
          obtain ⟨rfl, hw⟩ := hcut
          have P6 : Hid (URow wc a m ps) := by rw [hw]; exact P5.out
          have O6 : Hid (Row wc g4 L) := by rw [hw]; exact O5.out
          have B6 : Hid (Below w1.heap.size w1 wc) := by rw [hw]; exact below_drewN B5.out _
          clear hw o1 P5 O5 B5 R5 xa xb hil hjl hi hj hne q1 q2
          generalize Plain.hdr m more = hW at *
          go_wp2_with fail
          refine (read0_any g4 c4 hW L (Plain.gaps base ps) hlw (by omega) EW.out _ O6.out).mono ?_
          rintro e w7 ⟨rfl, hw⟩
          subst hw
          go_wp2
          have qL : Hid (L.length = (Plain.uv hW).length + (Plain.gaps base ps).length) := by unfold Hid; rw [EW.out]; simp
          have l1 := Nat.le_of_eq qL.out
          have l2 := Nat.le_of_eq qL.out.symm
          have hdr0 : Hid (∀ q, L.drop ((Plain.uv hW).length + q) = (Plain.gaps base ps).drop q) := by
            intro q; rw [EW.out, ← List.drop_drop, List.drop_left]
          clear qL EW
          generalize (Plain.uv hW).length = pW at *
          go_loop [16, 18, 19] (fun vp vc vi => ∃ i q : Nat, i ≤ m ∧ vi = .int .i64 i ∧ q = (Plain.gaps base (ps.take i)).length ∧ vp = .int .i64 ((pW + q : Nat) : Int) ∧ vc = .int .u64 (Plain.lastOr base (ps.take i) : Nat)) (fun _ _ vi => m - (intOf vi).toNat)
          case atStart => exact ⟨0, 0, Nat.zero_le _, rfl, rfl, rfl, rfl⟩
          case round =>
            obtain ⟨i, q, hi, rfl, hq, rfl, rfl⟩ := hrel
            have HQ := hid hq
            clear hq
            have hsg := hid (Plain.split_gaps base ps i)
            have hql : q ≤ (Plain.gaps base ps).length := by rw [hsg.out, List.length_append, HQ.out]; omega
            by_cases him : i < m
            · obtain ⟨b, off, rfl, hc⟩ := P6.out.2.2 i him
              have hcur := lastOr_lt base ps i hb hps.out (by rw [hpl.out]; omega)
              have hpi := hps.out i
              have hg1 := hid (Plain.gaps_take base ps i (by rw [hpl.out]; omega))
              have hg2 := hid (Plain.lastOr_take base ps i (by rw [hpl.out]; omega))
              have hgd := Plain.gaps_drop (Plain.lastOr base (ps.take i)) ps i (by rw [hpl.out]; omega)
              have hdrop : Hid (L.drop (pW + q) = Plain.uv (Plain.gap (Plain.lastOr base (ps.take i)) (ps.getD i 0)) ++ Plain.gaps (ps.getD i 0) (ps.drop (i + 1))) := by
                unfold Hid
                rw [hdr0.out q, hsg.out, HQ.out, List.drop_left, hgd]
              clear hgd hsg
              generalize Plain.lastOr base (ps.take i) = cur at *
              generalize ps.getD i 0 = p at *
              have hgl := Plain.gap_lt cur p
              have hwb := wrap_back cur p hcur hpi
              have hg1' : Hid (q + (Plain.uv (Plain.gap cur p)).length = (Plain.gaps base (ps.take (i + 1))).length) := by unfold Hid; rw [hg1.out, List.length_append, HQ.out]
              have hu10 := (Plain.uv_len (Plain.gap cur p)).2
              clear hg1 HQ
              generalize Plain.gap cur p = gp at *
              go_wp2_with fail
              refine (read_any g4 c4 (pW + q) gp L (Plain.gaps p (ps.drop (i + 1))) hgl (by omega) (by omega) hdrop.out _ O6.out).mono ?_
              rintro e w8 ⟨rfl, hw⟩
              subst hw
              have O7 := O6
              go_wp2
              go_round
              case rel => exact ⟨i + 1, q + (Plain.uv gp).length, by omega, by go_num, hg1'.out, by go_num, by rw [hg2.out]⟩
              case measure => simp [intOf]; omega
            · have hqe : q = (Plain.gaps base ps).length := by
                have := HQ.out
                rwa [List.take_of_length_le (by rw [hpl.out]; omega)] at this
              have hpe : pW + q = L.length := by omega
              have HPE := hid hpe
              clear hqe hpe hsg
              go_wp2
              go_ret
              exact ⟨ret_bool (by have := HPE.out; simp; omega), B6.out⟩
end Go.Proofs.Qxb6628550a
