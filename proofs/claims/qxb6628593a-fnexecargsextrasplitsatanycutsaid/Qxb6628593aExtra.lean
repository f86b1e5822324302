import Derived.Test.Qxb6628593aWords
namespace Go.Proofs.Qxb6628593a
open Go.RowKit
set_option linter.unusedVariables false
set_option linter.unusedSimpArgs false

theorem srow_take {w : World} {a : Option Addr} {n k : Nat} {ps : List ByteArray} (h : SRow w a n ps) (hk : k ≤ n) : SRow w a k (ps.take k) := by
  have h1 := h.1
  refine ⟨by simp; omega, fun j hj => ?_⟩
  obtain ⟨b, off, ha, hc⟩ := h.2 j (by omega)
  refine ⟨b, off, ha, ?_⟩
  rw [hc, gd_take ps k j hj]

set_option maxRecDepth 20000 in
set_option maxHeartbeats 3200000 in
theorem extra_in (dir fp th : ByteArray) (a : Option Addr) (n c : Nat) (ii : Int) (ss : List ByteArray) (w : World) (hs : SRow w a n ss) (hnone : a = none → n = 0 ∧ c = 0) (hlt : ∀ b off, a = some ⟨b, off, none⟩ → 0 < n → b < w.heap.size) (hnc : n ≤ c) (hcm : c ≤ 9223372036854775807)
    (hn : n ≤ 65536) (h0 : dir.size ≤ 1048576) (h1 : fp.size ≤ 1048576) (h3 : th.size ≤ 1048576) :
    Calls Try.prog 3 #[.string dir, .string fp, .slice a n c, .string th, .int .i64 ii] w fun e w' => e = .returned (.bool true) ∧ Below w.heap.size w w' := by
  obtain ⟨i0, hi, hz0, hz1, hz2⟩ := info_parts Try.info9
  have H : Hid (SRow w a n ss) := hs
  have HL := hid hlt
  have HN := hid hnone
  clear hs hlt hnone
  have hnn := fun (wx : World) => run_neq_slice_nil_any (P := Try.prog) wx 22 9 a n c 0 0 Try.underlying22
  go_enter Try.func3, Try.ntmps3
  go_wp2_with fail
  refine (zzExtra_any dir fp th ii a n c ss (by omega) _ H.out).mono ?_
  rintro e w1 ⟨⟨b, rfl⟩, hw⟩
  have hw' := hw.symm
  subst hw'
  clear hw
  cases b with
  | false =>
    go_wp2
    go_ret
    exact ⟨rfl, Below.refl _ _⟩
  | true =>
  go_upto_if 47 with fail
  go_cut [2, 11] (fun s2 s11 wx => ∃ (a2 : Option Addr) (c2 : Nat), s2 = .slice a2 n c2 ∧ Extra w wx a2 n c2 ss)
  case first =>
    cases a with
    | none =>
      obtain ⟨rfl, rfl⟩ := HN.out rfl
      go_wp2
      go_meet
      case rel => exact ⟨none, 0, rfl, H.out, fun _ => ⟨rfl, rfl⟩, by omega, by omega, fun b off e h0 => by omega, Below.refl _ _⟩
    | some ad =>
      go_wp2_with (at_make; refine wpList_make_full _ rfl _ _ 22 rfl w.heap.size 9 i0 (.string ByteArray.empty) 1 Try.underlying22 hi hz0 hz1 _ _ _ _ n rfl rfl rfl rfl ?m1 ?m2 ?m3 ?_)
      case m1 => rw [hz2]; omega
      case m2 => unfold maxLen; omega
      case m3 => exact Nat.le_refl _
      intro w2 ho2 hg2
      have hb2 : Below w.heap.size w w2 := (Below.refl _ _).grown hg2 (Nat.le_refl _) (by simp)
      rw [toList_madeCells_one] at ho2
      obtain ⟨hge, hblk⟩ := own_block ho2
      obtain ⟨Z, hZ⟩ : ∃ Z, Z = List.replicate n (Value.string ByteArray.empty) := ⟨_, rfl⟩
      have HZ := hid hZ
      rw [← hZ] at hblk
      clear hZ ho2 hg2 hge
      have S2 := hid (srow_below H.out hb2 HL.out)
      have BK := hid hblk
      have B2 := hid hb2
      clear hblk hb2
      go_upto_region 7 with fail
      go_wp2_with (refine wpList_copy_splice rfl (.tmp 51) (.tmp 52) 22 22 rfl 9 Try.underlying22 ?k1 _ _ _ _ _ _ rfl rfl w.heap.size 0 Z 9 BK.out (vs ss) ?k2 ?k3 ?k4 (vs_one ss) w.heap.size w B2.out (Nat.le_refl _) ?_)
      case k1 => rw [hi]; simp [hz1]
      case k2 => rw [vs_len, H.out.1]; simp
      case k3 => intro h0; exact news_of S2.out ad rfl
      case k4 => rw [vs_len, H.out.1, HZ.out]; simp
      intro w3 hg3 hb3
      have hg3' := hg3.out
      rw [splice_all Z (vs ss) (by rw [vs_len, H.out.1, HZ.out]; simp)] at hg3'
      have E3 : Hid (Extra w w3 (some ⟨w.heap.size, 0, none⟩) n n ss) := by
        refine ⟨srow_block hg3' H.out.1, by simp, Nat.le_refl _, by omega, fun b off e h0 => ?_, hb3⟩
        simp only [Option.some.injEq, Addr.mk.injEq] at e
        rw [← e.1]
        exact (Array.getElem?_eq_some_iff.1 hg3').1
      clear hg3' hg3 hb3 BK B2 S2
      go_wp2
      go_meet
      case rel => exact ⟨_, _, rfl, E3.out⟩
  case rest =>
  obtain ⟨a2, c2, rfl, hE⟩ := hcut
  have ES := hid hE.1
  have EN := hid hE.2.1
  have hnc2 := hE.2.2.1
  have hcm2 := hE.2.2.2.1
  have EL := hid hE.2.2.2.2.1
  have EB := hid hE.2.2.2.2.2
  clear hE H HL HN hnn
  go_wp2
  · go_ret
    exact ⟨rfl, EB.out⟩
  go_loop [12, 13] (fun t i => ∃ (j : Nat) (s : Int), j ≤ n ∧ i = .int .i64 j ∧ t = .int .i64 s) (fun _ i => n - (intOf i).toNat)
  case atStart => exact ⟨0, _, Nat.zero_le _, rfl, rfl⟩
  case round =>
    obtain ⟨j, s, hj, rfl, rfl⟩ := hrel
    by_cases hjn : j < n
    · obtain ⟨b, off, rfl, hc⟩ := ES.out.2 j hjn
      generalize ss.getD j ByteArray.empty = x at hc
      go_wp2
      · go_ret
        exact ⟨rfl, EB.out⟩
      · go_round
        case rel => exact ⟨j + 1, _, by omega, by go_num, rfl⟩
        case measure => simp [intOf]; omega
    · by_cases hneg : ii < 0
      · go_wp2
        go_ret
        exact ⟨rfl, EB.out⟩
      by_cases hbig : (n : Int) < ii
      · go_wp2
        go_ret
        exact ⟨rfl, EB.out⟩
      obtain ⟨k, rfl⟩ : ∃ k : Nat, ii = k := ⟨ii.toNat, by omega⟩
      have hk : k ≤ n := by omega
      clear hneg hbig
      go_upto_if 92 with fail
      go_cut [15] (fun s15 wx => s15 = .int .i64 (tN th : Nat) ∧ wx = wc)
      case first =>
        go_wp2
        · have hth : (!th.toList.isEmpty) = true := by assumption
          have ht := hid (tN_more th (by simpa using hth))
          go_meet
          case rel => exact ⟨by rw [ht.out]; rfl, rfl⟩
        · have hth : (!th.toList.isEmpty) = false := by assumption
          have ht := hid (tN_empty th (by simpa using hth))
          go_meet
          case rel => exact ⟨by rw [ht.out]; rfl, rfl⟩
      case rest =>
      obtain ⟨w5, hw5⟩ : ∃ w5, w5 = wc := ⟨_, rfl⟩
      obtain ⟨rfl, hw⟩ := hcut
      subst hw
      subst hw5
      have ht2 := tN_le th
      have hll : Hid (ss.length = n) := ES.out.1
      have LA := hid (argv_len dir fp (ss.take k) th)
      have LB := hid (argv_len dir fp ss th)
      have C1 : Hid _ := cut_same dir fp th ss k (by rw [hll.out]; exact hk)
      have C2 : Hid _ := cut_tail dir fp th ss k (by rw [hll.out]; exact hk)
      have C3 := hid (argv_mid dir fp th ss)
      have C4 := hid (argv_dir dir fp th ss)
      have C5 := hid (argv_fp dir fp th ss)
      have C6 := hid (argv_last dir fp th ss)
      have C7 := hid (argv_thread dir fp th ss)
      go_wp2_with fail
      refine (exec_any dir fp th a2 k c2 (ss.take k) _ (by omega) (srow_take ES.out hk) (fun e => ⟨by have := (EN.out e).1; omega, (EN.out e).2⟩) (fun b off e h0 => EL.out b off e (by omega))).mono ?_
      rintro e w6 ⟨gA, cA, A, HA, rfl, rA, lA, bA⟩
      have S6 := hid (srow_below ES.out bA EL.out)
      have L6 : Hid (∀ b off, a2 = some ⟨b, off, none⟩ → 0 < n → b < w6.heap.size) := fun b off e h0 => Nat.lt_of_lt_of_le (EL.out b off e h0) bA.size
      have B6 := hid (EB.out.trans (bA.mono EB.out.size))
      have RA6 := hid rA
      clear rA bA ES EL EB
      go_wp2_with fail
      refine (exec_any dir fp th a2 n c2 ss _ (by omega) S6.out EN.out L6.out).mono ?_
      rintro e w7 ⟨gB, cB, B, HB, rfl, rB, lB, bB⟩
      have S7 := hid (srow_below S6.out bB L6.out)
      have RA := hid (row_keep RA6.out bB lA)
      have RB := hid rB
      have BF := hid (B6.out.trans (bB.mono B6.out.size))
      have TF : Hid ((th.toList.isEmpty = true ∧ tN th = 0) ∨ (th.toList.isEmpty = false ∧ tN th = 2)) := by
        unfold Hid
        cases h : th.toList.isEmpty
        · exact Or.inr ⟨rfl, tN_more th h⟩
        · exact Or.inl ⟨rfl, tN_empty th h⟩
      rw [← HA.out, List.length_take, hll.out] at LA
      rw [← HB.out, hll.out] at LB
      rw [← HA.out, ← HB.out] at C1 C2
      rw [hll.out] at C2
      rw [← HB.out] at C3 C4 C5 C6 C7
      rw [hll.out] at C3 C6 C7
      clear rB bB RA6 B6 S6 L6 EN HA HB lA lB
      have a1 : A.length ≤ 7 + k + tN th := by have := LA.out; omega
      have a2' : 7 + k + tN th ≤ A.length := by have := LA.out; omega
      have b1 : B.length ≤ 7 + n + tN th := by have := LB.out; omega
      have b2 : 7 + n + tN th ≤ B.length := by have := LB.out; omega
      clear LA LB
      generalize tN th = t at *
      have hne1 : ((A.length : Int) != 7 + (k : Int) + (t : Int)) = false := by rw [bne_eq_false_iff_eq]; omega
      have hne2 : ((B.length : Int) != 7 + (n : Int) + (t : Int)) = false := by rw [bne_eq_false_iff_eq]; omega
      go_wp2
      go_loopw [18] (fun v wr => ∃ i : Nat, i ≤ 6 + k ∧ v = .int .i64 i ∧ ∃ nd, wr = w7.drewN nd) (fun v _ => 6 + k - (intOf v).toNat)
      case atStart => exact ⟨0, Nat.zero_le _, rfl, 0, rfl⟩
      case round =>
        obtain ⟨i, hi1, rfl, nd, rfl⟩ := hrel
        by_cases hil : i < 6 + k
        · have ca := RB.out i (by omega)
          have cb := RA.out i (by omega)
          rw [C1.out i hil] at ca
          generalize A.getD i ByteArray.empty = z at ca cb
          have i1 : (i : Int) < (B.length : Int) := by omega
          have i2 : (i : Int) < (A.length : Int) := by omega
          go_wp2
          go_quiet (fail)
          go_wp2
          go_roundw
          case rel => exact ⟨i + 1, by omega, by go_num, _, rfl⟩
          case measure => simp [intOf]; omega
        · go_wp2
          clear C1 hil hi1
          go_loopw [19] (fun v wr => ∃ i : Nat, k ≤ i ∧ i ≤ n ∧ v = .int .i64 i ∧ ∃ nd, wr = w7.drewN nd) (fun v _ => n - (intOf v).toNat)
          case atStart => exact ⟨k, Nat.le_refl _, hk, rfl, _, rfl⟩
          case round =>
            obtain ⟨i, hi0, hi1, rfl, nd, rfl⟩ := hrel
            by_cases hil : i < n
            · have ca := RB.out (6 + i) (by omega)
              obtain ⟨b, off, rfl, cb⟩ := S7.out.2 i hil
              rw [C3.out i hil] at ca
              generalize ss.getD i ByteArray.empty = z at ca cb
              have i1 : (6 : Int) + (i : Int) < (B.length : Int) := by omega
              have i2 : (i : Int) < (n : Int) := by omega
              go_wp2
              go_quiet (fail)
              go_wp2
              go_roundw
              case rel => exact ⟨i + 1, by omega, by omega, by go_num, _, rfl⟩
              case measure => simp [intOf]; omega
            · go_wp2
              clear C3 S7 hil hi1 hi0
              go_loopw [20] (fun v wr => ∃ i : Nat, 6 + k ≤ i ∧ i ≤ A.length ∧ v = .int .i64 i ∧ ∃ nd, wr = w7.drewN nd) (fun v _ => A.length - (intOf v).toNat)
              case atStart => exact ⟨6 + k, Nat.le_refl _, by omega, by go_num, _, rfl⟩
              case round =>
                obtain ⟨i, hi0, hi1, rfl, nd, rfl⟩ := hrel
                by_cases hil : i < A.length
                · have ca := RB.out (i + n - k) (by omega)
                  have cb := RA.out i hil
                  rw [C2.out i hi0] at ca
                  generalize A.getD i ByteArray.empty = z at ca cb
                  have i1 : (i : Int) + (n : Int) - (k : Int) < (B.length : Int) := by omega
                  have i2 : (i : Int) < (A.length : Int) := by omega
                  have i3 : (0 : Int) ≤ (i : Int) + (n : Int) - (k : Int) := by omega
                  go_wp2
                  go_quiet (fail)
                  go_wp2
                  go_roundw
                  case rel => exact ⟨i + 1, by omega, by omega, by go_num, _, rfl⟩
                  case measure => simp [intOf]; omega
                · have c3 := RB.out 3 (by omega)
                  have c5 := RB.out 5 (by omega)
                  have c6 := RB.out (B.length - 1) (by omega)
                  have hb1 : Hid (B.length - 1 = 6 + (n + t)) := by unfold Hid; omega
                  have hb2 : Hid (t = 2 → B.length - 2 = 6 + (n + 1)) := by unfold Hid; omega
                  rw [C4.out] at c3
                  rw [C5.out] at c5
                  rw [hb1.out, C6.out, ← hb1.out] at c6
                  rcases TF.out with ⟨ht1, ht2⟩ | ⟨ht1, ht2⟩
                  · have hq : ((t : Int) == 2) = false := beq_eq_false_iff_ne.2 (by omega)
                    clear ht1 ht2 C7 C2 C4 C5 C6
                    go_wp2
                    go_ret
                    exact ⟨rfl, below_drewN BF.out _⟩
                  · have hq : ((t : Int) == 2) = true := beq_iff_eq.2 (by omega)
                    have c7 := RB.out (B.length - 2) (by omega)
                    rw [hb2.out ht2, C7.out ht1, ← hb2.out ht2] at c7
                    clear ht1 ht2 C7 C2 C4 C5 C6
                    go_wp2
                    go_ret
                    exact ⟨rfl, below_drewN BF.out _⟩
end Go.Proofs.Qxb6628593a
