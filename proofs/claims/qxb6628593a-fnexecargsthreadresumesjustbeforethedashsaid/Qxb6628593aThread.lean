import Derived.Test.Qxb6628593aWords
namespace Go.Proofs.Qxb6628593a
open Go.RowKit
set_option linter.unusedVariables false
set_option linter.unusedSimpArgs false

theorem empty_words : (⟨#[]⟩ : ByteArray).toList.isEmpty = true := by decide +kernel
/-- The words of a call with an empty thread. -/
theorem fresh_same (dir fp th : ByteArray) (ex : List ByteArray) (h : th.toList.isEmpty = true) : argv dir fp ex th = argv dir fp ex ⟨#[]⟩ := by
  unfold argv tail; rw [if_pos h, if_pos empty_words]
/-- A thread leaves the words ahead of the dash as they are. -/
theorem res_same (dir fp th th' : ByteArray) (ex : List ByteArray) (i : Nat) (h : i < 6 + ex.length) : (argv dir fp ex th).getD i ByteArray.empty = (argv dir fp ex th').getD i ByteArray.empty := by
  by_cases h6 : i < 6
  · rw [argv_head _ _ _ _ i h6, argv_head _ _ _ _ i h6]
  · obtain ⟨j, rfl⟩ : ∃ j, i = 6 + j := ⟨i - 6, by omega⟩
    rw [argv_mid _ _ _ _ j (by omega), argv_mid _ _ _ _ j (by omega)]

set_option maxRecDepth 20000 in
set_option maxHeartbeats 3200000 in
theorem thread_in (dir fp th : ByteArray) (a : Option Addr) (n c : Nat) (ss : List ByteArray) (w : World) (hs : SRow w a n ss) (hnone : a = none → n = 0 ∧ c = 0) (hlt : ∀ b off, a = some ⟨b, off, none⟩ → 0 < n → b < w.heap.size) (hnc : n ≤ c) (hcm : c ≤ 9223372036854775807)
    (hn : n ≤ 65536) (h0 : dir.size ≤ 1048576) (h1 : fp.size ≤ 1048576) (h3 : th.size ≤ 1048576) :
    Calls Try.prog 4 #[.string dir, .string fp, .slice a n c, .string th] w fun e w' => e = .returned (.bool true) ∧ Below w.heap.size w w' := by
  obtain ⟨i0, hi, hz0, hz1, hz2⟩ := info_parts Try.info9
  have H : Hid (SRow w a n ss) := hs
  have HL := hid hlt
  have HN := hid hnone
  clear hs hlt hnone
  have hnn := fun (wx : World) => run_neq_slice_nil_any (P := Try.prog) wx 22 9 a n c 0 0 Try.underlying22
  go_enter Try.func4, Try.ntmps4
  go_wp2_with fail
  refine (zzThread_any dir fp th a n c ss (by omega) _ H.out).mono ?_
  rintro e w1 ⟨⟨b, rfl⟩, hw⟩
  have hw' := hw.symm
  subst hw'
  clear hw
  cases b with
  | false =>
    go_wp2
    go_ret
    exact ⟨rfl, Below.refl _ _⟩
  | true =>
  go_upto_if 43 with fail
  go_cut [2, 9] (fun s2 s9 wx => ∃ (a2 : Option Addr) (c2 : Nat), s2 = .slice a2 n c2 ∧ Extra w wx a2 n c2 ss)
  case first =>
    cases a with
    | none =>
      obtain ⟨rfl, rfl⟩ := HN.out rfl
      go_wp2
      go_meet
      case rel => exact ⟨none, 0, rfl, H.out, fun _ => ⟨rfl, rfl⟩, by omega, by omega, fun b off e h0 => by omega, Below.refl _ _⟩
    | some ad =>
      go_wp2_with (at_make; refine wpList_make_full _ rfl _ _ 22 rfl w.heap.size 9 i0 (.string ByteArray.empty) 1 Try.underlying22 hi hz0 hz1 _ _ _ _ n rfl rfl rfl rfl ?m1 ?m2 ?m3 ?_)
      case m1 => rw [hz2]; omega
      case m2 => unfold maxLen; omega
      case m3 => exact Nat.le_refl _
      intro w2 ho2 hg2
      have hb2 : Below w.heap.size w w2 := (Below.refl _ _).grown hg2 (Nat.le_refl _) (by simp)
      rw [toList_madeCells_one] at ho2
      obtain ⟨hge, hblk⟩ := own_block ho2
      obtain ⟨Z, hZ⟩ : ∃ Z, Z = List.replicate n (Value.string ByteArray.empty) := ⟨_, rfl⟩
      have HZ := hid hZ
      rw [← hZ] at hblk
      clear hZ ho2 hg2 hge
      have S2 := hid (srow_below H.out hb2 HL.out)
      have BK := hid hblk
      have B2 := hid hb2
      clear hblk hb2
      go_upto_region 7 with fail
      go_wp2_with (refine wpList_copy_splice rfl (.tmp 47) (.tmp 48) 22 22 rfl 9 Try.underlying22 ?k1 _ _ _ _ _ _ rfl rfl w.heap.size 0 Z 9 BK.out (vs ss) ?k2 ?k3 ?k4 (vs_one ss) w.heap.size w B2.out (Nat.le_refl _) ?_)
      case k1 => rw [hi]; simp [hz1]
      case k2 => rw [vs_len, H.out.1]; simp
      case k3 => intro h0; exact news_of S2.out ad rfl
      case k4 => rw [vs_len, H.out.1, HZ.out]; simp
      intro w3 hg3 hb3
      have hg3' := hg3.out
      rw [splice_all Z (vs ss) (by rw [vs_len, H.out.1, HZ.out]; simp)] at hg3'
      have E3 : Hid (Extra w w3 (some ⟨w.heap.size, 0, none⟩) n n ss) := by
        refine ⟨srow_block hg3' H.out.1, by simp, Nat.le_refl _, by omega, fun b off e h0 => ?_, hb3⟩
        simp only [Option.some.injEq, Addr.mk.injEq] at e
        rw [← e.1]
        exact (Array.getElem?_eq_some_iff.1 hg3').1
      clear hg3' hg3 hb3 BK B2 S2
      go_wp2
      go_meet
      case rel => exact ⟨_, _, rfl, E3.out⟩
  case rest =>
  obtain ⟨a2, c2, rfl, hE⟩ := hcut
  have ES := hid hE.1
  have EN := hid hE.2.1
  have hnc2 := hE.2.2.1
  have hcm2 := hE.2.2.2.1
  have EL := hid hE.2.2.2.2.1
  have EB := hid hE.2.2.2.2.2
  clear hE H HL HN hnn
  go_wp2
  · go_ret
    exact ⟨rfl, EB.out⟩
  go_loop [10, 11] (fun t i => ∃ (j : Nat) (s : Int), j ≤ n ∧ i = .int .i64 j ∧ t = .int .i64 s) (fun _ i => n - (intOf i).toNat)
  case atStart => exact ⟨0, _, Nat.zero_le _, rfl, rfl⟩
  case round =>
    obtain ⟨j, s, hj, rfl, rfl⟩ := hrel
    by_cases hjn : j < n
    · obtain ⟨b, off, rfl, hc⟩ := ES.out.2 j hjn
      generalize ss.getD j ByteArray.empty = x at hc
      go_wp2
      · go_ret
        exact ⟨rfl, EB.out⟩
      · go_round
        case rel => exact ⟨j + 1, _, by omega, by go_num, rfl⟩
        case measure => simp [intOf]; omega
    · have hll : Hid (ss.length = n) := ES.out.1
      have LF : Hid ((argv dir fp ss ⟨#[]⟩).length = 7 + n) := by unfold Hid; rw [argv_len, hll.out, tN_empty _ empty_words]; rfl
      have LR := hid (argv_len dir fp ss th)
      have C0 := hid (argv_last dir fp ⟨#[]⟩ ss)
      have C1 := hid (argv_dir dir fp ⟨#[]⟩ ss)
      have C2 := hid (argv_mid dir fp ⟨#[]⟩ ss)
      have C3 : Hid _ := fresh_same dir fp th ss
      have C4 : Hid _ := res_same dir fp th ⟨#[]⟩ ss
      have C5 : Hid _ := argv_resume dir fp th ss
      have C6 : Hid _ := argv_thread dir fp th ss
      have C7 := hid (argv_last dir fp th ss)
      rw [tN_empty _ empty_words, hll.out] at C0
      rw [hll.out] at LR C2 C4 C5 C6 C7
      go_wp2_with fail
      refine (exec_any dir fp ⟨#[]⟩ a2 n c2 ss _ (by omega) ES.out EN.out EL.out).mono ?_
      rintro e w6 ⟨gF, cF, F, HF, rfl, rF, lF, bF⟩
      have S6 := hid (srow_below ES.out bF EL.out)
      have L6 : Hid (∀ b off, a2 = some ⟨b, off, none⟩ → 0 < n → b < w6.heap.size) := fun b off e h0 => Nat.lt_of_lt_of_le (EL.out b off e h0) bF.size
      have B6 := hid (EB.out.trans (bF.mono EB.out.size))
      have RF6 := hid rF
      clear rF bF ES EL EB
      go_wp2_with fail
      refine (exec_any dir fp th a2 n c2 ss _ (by omega) S6.out EN.out L6.out).mono ?_
      rintro e w7 ⟨gR, cR, R, HR, rfl, rR, lR, bR⟩
      have S7 := hid (srow_below S6.out bR L6.out)
      have RF := hid (row_keep RF6.out bR lF)
      have RR := hid rR
      have BF := hid (B6.out.trans (bR.mono B6.out.size))
      rw [← HF.out] at LF C0 C1 C2 C3 C4
      rw [← HR.out] at LR C3 C4 C5 C6 C7
      clear rR bR RF6 B6 S6 L6 EN HF HR lF lR
      have f1 : F.length ≤ 7 + n := by have := LF.out; omega
      have f2 : 7 + n ≤ F.length := by have := LF.out; omega
      clear LF
      have hne1 : ((F.length : Int) != 7 + (n : Int)) = false := by rw [bne_eq_false_iff_eq]; omega
      have c6 := RF.out (6 + n) (by omega)
      have c3 := RF.out 3 (by omega)
      rw [show F.getD (6 + n) ByteArray.empty = ⟨#[45]⟩ from C0.out] at c6
      rw [C1.out] at c3
      clear C0 C1
      go_wp2
      clear c6 c3
      go_loopw [15] (fun v wr => ∃ i : Nat, i ≤ n ∧ v = .int .i64 i ∧ ∃ nd, wr = w7.drewN nd) (fun v _ => n - (intOf v).toNat)
      case atStart => exact ⟨0, Nat.zero_le _, rfl, 0, rfl⟩
      case round =>
        obtain ⟨i, hi1, rfl, nd, rfl⟩ := hrel
        by_cases hil : i < n
        · have ca := RF.out (6 + i) (by omega)
          obtain ⟨b, off, rfl, cb⟩ := S7.out.2 i hil
          rw [C2.out i hil] at ca
          generalize ss.getD i ByteArray.empty = z at ca cb
          have i1 : (6 : Int) + (i : Int) < (F.length : Int) := by omega
          have i2 : (i : Int) < (n : Int) := by omega
          go_wp2
          go_quiet (fail)
          go_wp2
          go_roundw
          case rel => exact ⟨i + 1, by omega, by go_num, _, rfl⟩
          case measure => simp [intOf]; omega
        · by_cases hth : th.toList.isEmpty = true
          · -- an empty thread: the fresh list
            have E := hid (C3.out hth)
            have r1 : R.length ≤ F.length := by rw [E.out]; exact Nat.le_refl _
            have r2 : F.length ≤ R.length := by rw [E.out]; exact Nat.le_refl _
            have hne2 : ((R.length : Int) != (F.length : Int)) = false := by rw [bne_eq_false_iff_eq]; omega
            clear C2 C3 C4 C5 C6 C7 S7 LR
            go_wp2
            go_loopw [16] (fun v wr => ∃ i : Nat, i ≤ F.length ∧ v = .int .i64 i ∧ ∃ nd, wr = w7.drewN nd) (fun v _ => F.length - (intOf v).toNat)
            case atStart => exact ⟨0, Nat.zero_le _, rfl, _, rfl⟩
            case round =>
              obtain ⟨i, hi1, rfl, nd, rfl⟩ := hrel
              by_cases hil : i < F.length
              · have ca := RR.out i (by omega)
                have cb := RF.out i hil
                rw [E.out] at ca
                generalize F.getD i ByteArray.empty = z at ca cb
                have i1 : (i : Int) < (R.length : Int) := by omega
                have i2 : (i : Int) < (F.length : Int) := by omega
                go_wp2
                go_quiet (fail)
                go_wp2
                go_roundw
                case rel => exact ⟨i + 1, by omega, by go_num, _, rfl⟩
                case measure => simp [intOf]; omega
              · go_wp2
                go_ret
                exact ⟨rfl, below_drewN BF.out _⟩
          · -- a thread: its two words ahead of the dash
            have hth' : th.toList.isEmpty = false := by simpa using hth
            clear hth
            have htn := tN_more th hth'
            have hR : Hid (R.length = 9 + n) := by unfold Hid; rw [LR.out, htn]; omega
            have r1 : R.length ≤ 9 + n := Nat.le_of_eq hR.out
            have r2 : 9 + n ≤ R.length := Nat.le_of_eq hR.out.symm
            have D5 := hid (C5.out hth')
            have D6 := hid (C6.out hth')
            have D7 : Hid (R.getD (6 + (n + 2)) ByteArray.empty = ⟨#[45]⟩) := by have := C7.out; rwa [htn] at this
            have hne2 : ((R.length : Int) != 9 + (n : Int)) = false := by rw [bne_eq_false_iff_eq]; omega
            clear C2 C3 C5 C6 C7 S7 LR htn
            go_wp2
            go_loopw [17] (fun v wr => ∃ i : Nat, i ≤ 6 + n ∧ v = .int .i64 i ∧ ∃ nd, wr = w7.drewN nd) (fun v _ => 6 + n - (intOf v).toNat)
            case atStart => exact ⟨0, Nat.zero_le _, rfl, _, rfl⟩
            case round =>
              obtain ⟨i, hi1, rfl, nd, rfl⟩ := hrel
              by_cases hil : i < 6 + n
              · have ca := RR.out i (by omega)
                have cb := RF.out i (by omega)
                rw [C4.out i hil] at ca
                generalize F.getD i ByteArray.empty = z at ca cb
                have i1 : (i : Int) < (R.length : Int) := by omega
                have i2 : (i : Int) < (F.length : Int) := by omega
                go_wp2
                go_quiet (fail)
                go_wp2
                go_roundw
                case rel => exact ⟨i + 1, by omega, by go_num, _, rfl⟩
                case measure => simp [intOf]; omega
              · have c6 := RR.out (6 + n) (by omega)
                have c7 := RR.out (7 + n) (by omega)
                have c8 := RR.out (8 + n) (by omega)
                rw [show R.getD (6 + n) ByteArray.empty = ⟨#[114, 101, 115, 117, 109, 101]⟩ from D5.out] at c6
                rw [show 7 + n = 6 + (n + 1) by omega, D6.out, show 6 + (n + 1) = 7 + n by omega] at c7
                rw [show 8 + n = 6 + (n + 2) by omega, D7.out, show 6 + (n + 2) = 8 + n by omega] at c8
                clear C4 D5 D6 D7
                go_wp2
                go_ret
                exact ⟨rfl, below_drewN BF.out _⟩
end Go.Proofs.Qxb6628593a
