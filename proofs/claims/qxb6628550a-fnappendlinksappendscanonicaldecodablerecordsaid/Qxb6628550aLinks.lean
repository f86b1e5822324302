import Derived.Test.Qxb6628550aUv
namespace Go.Proofs.Qxb6628550a
open Go.RowKit
set_option linter.unusedVariables false
set_option linter.unusedSimpArgs false

/-- What the walk is told of a slice of uint64. -/
def URow (w : World) (a : Option Addr) (n : Nat) (ps : List Nat) : Prop :=
  ps.length = n ∧ (∀ j, ps.getD j 0 < 18446744073709551616) ∧ ∀ j, j < n → ∃ b off, a = some ⟨b, off, none⟩ ∧ w.cell? ⟨b, off + j, none⟩ = some (.int .u64 (ps.getD j 0 : Nat))
theorem urow_below {B : Nat} {w w' : World} {a : Option Addr} {n : Nat} {l : List Nat} (h : URow w a n l) (hb : Below B w w') (hlt : ∀ b off, a = some ⟨b, off, none⟩ → 0 < n → b < B) : URow w' a n l := by
  refine ⟨h.1, h.2.1, fun j hj => ?_⟩
  obtain ⟨b, off, ha, hc⟩ := h.2.2 j hj
  exact ⟨b, off, ha, (hb.cell (p := ⟨b, off + j, none⟩) (hlt b off ha (by omega))).trans hc⟩
theorem or1_nat (m : Nat) : 2 * m ||| 1 = 2 * m + 1 := by
  have := nat_join 1 (2 * m) 1 (by omega) (by omega)
  exact this
theorem u64_or1 (m : Nat) (h : m ≤ 1048576) : bits .or .u64 ((m : Int) * 2) 1 = (m : Int) * 2 + 1 := by
  have := u64_or_nat (2 * m) 1 (by omega) (by omega)
  rw [show ((2 * m : Nat) : Int) = (m : Int) * 2 by omega, show ((1 : Nat) : Int) = 1 from rfl] at this
  rw [this, or1_nat]; omega

theorem lastOr_lt (b : Nat) (l : List Nat) (k : Nat) (hb : b < 18446744073709551616) (h : ∀ j, l.getD j 0 < 18446744073709551616) (hk : k ≤ l.length) : Plain.lastOr b (l.take k) < 18446744073709551616 := by
  cases k with
  | zero => simpa [Plain.lastOr] using hb
  | succ k => rw [Plain.lastOr_take b l k (by omega)]; exact h k

/-- A slice that has no room: nil, or full. -/
def Full (w : World) (v : Value) (n : Nat) (xs : List Value) : Prop :=
  (v = .slice none 0 0 ∧ n = 0 ∧ xs = []) ∨ ∃ g, v = .slice (some ⟨g, 0, none⟩) n n ∧ xs.length = n ∧ ∀ j u, xs[j]? = some u → w.cell? ⟨g, j, none⟩ = some u
theorem Full.ready {w : World} {v : Value} {n : Nat} {xs : List Value} (h : Full w v n xs) (B : Nat) : Ready w B v n xs := by
  rcases h with ⟨rfl, rfl, rfl⟩ | h
  · exact Or.inl (World.ownsRow_nil w B 5 1)
  · exact Or.inr h

theorem wrap_gap (b p : Nat) (hb : b < 18446744073709551616) (hp : p < 18446744073709551616) : IntKind.u64.wrap ((b : Int) - (p : Int)) = ((Plain.gap b p : Nat) : Int) := by
  rw [IntKind.wrap_u64]; unfold Plain.gap; omega

set_option maxRecDepth 20000 in
set_option maxHeartbeats 800000 in
theorem links_any (n m c base : Nat) (v : Value) (xs : List Nat) (a : Option Addr) (ps : List Nat) (more : Bool) (w : World) (hb : base < 18446744073709551616) (hr : Full w v n (bs xs)) (hn : n ≤ 1048576) (hm : m ≤ 1048576)
    (hp : URow w a m ps) (hlt : ∀ b off, a = some ⟨b, off, none⟩ → 0 < m → b < w.heap.size) :
    Calls Try.prog 7 #[v, .int .u64 base, .agg #[.slice a m c, .bool more]] w fun e w' => ∃ v', e = .returned v' ∧ w'.ownsRow w.heap.size 5 1 v' (n + (Plain.links base ps more).length) (bs (xs ++ Plain.links base ps more)) ∧ Below w.heap.size w w' := by
  have HP := hid hp
  have HL := hid hlt
  have HR : Hid (Ready (w.alloc (.cells #[.slice a m c, .bool more] 29)) (w.heap.size + 1) v n (bs xs)) := (hr.ready (w.heap.size + 1)).alloc _
  have HA := hid (Below.alloc (Below.refl w.heap.size w) (Nat.le_refl _) (.cells #[.slice a m c, .bool more] 29))
  have HU : Hid (URow (w.alloc (.cells #[.slice a m c, .bool more] 29)) a m ps) := urow_below hp HA.out hlt
  have HC : Hid ((w.alloc (.cells #[.slice a m c, .bool more] 29)).cell? ⟨w.heap.size, 0, none⟩ = some (.slice a m c)) := by unfold Hid; simp
  have HZ : Hid ((w.alloc (.cells #[.slice a m c, .bool more] 29)).heap.size = w.heap.size + 1) := by unfold Hid; simp
  clear hp hlt hr
  have hor := u64_or1 m hm
  have hh : Hid (Plain.hdr m more = m * 2 + if more then 1 else 0) := by unfold Hid Plain.hdr; omega
  have hl2 := Plain.hdr_lt m more hm
  have HF : Hid (Plain.links base ps more = Plain.uv (Plain.hdr m more) ++ Plain.gaps base ps) := by unfold Hid Plain.links; rw [HP.out.1]
  have hul := (Plain.uv_len (Plain.hdr m more)).2
  go_enter Try.func7, Try.ntmps7
  cases more
  all_goals
    simp only [if_true, if_false, Bool.false_eq_true] at hh
    go_wp2_with fail
    first | rw [show ((m : Int) * 2 + 1) = ((Plain.hdr m true : Nat) : Int) by rw [hh.out]; omega] | rw [show ((m : Int) * 2) = ((Plain.hdr m false : Nat) : Int) by rw [hh.out]; omega]
    refine (appendUv_any (w.heap.size + 1) n _ (by omega) v xs _ HR.out (by simp) (by omega)).mono ?_
    rintro e w1 ⟨v1, rfl, ho1, hb1⟩
    have c1 := (hb1.cell (p := ⟨w.heap.size, 0, none⟩) (by simp)).trans HC.out
    have O1 := hid ho1
    have B1 := hid hb1
    clear ho1 hb1 HR HC
    generalize Plain.hdr m _ = hd at *
    go_wp2
    go_loopw [0, 1, 25] (fun vb t i wr => ∃ k : Nat, k ≤ m ∧ i = .int .i64 k ∧ t = .int .u64 (Plain.lastOr base (ps.take k) : Nat) ∧ wr.ownsRow (w.heap.size + 1) 5 1 vb (n + (Plain.uv hd ++ Plain.gaps base (ps.take k)).length) (bs (xs ++ (Plain.uv hd ++ Plain.gaps base (ps.take k)))) ∧ Below (w.heap.size + 1) (w.alloc (.cells #[.slice a m c, .bool _] 29)) wr) (fun _ _ i _ => m - (intOf i).toNat)
    case atStart => exact ⟨0, Nat.zero_le _, rfl, rfl, by simpa [Plain.gaps] using O1.out, B1.out⟩
    case round =>
      obtain ⟨k, hk, rfl, rfl, hown, hbel⟩ := hrel
      clear O1 B1 c1
      have hsz := hbel.size
      rw [HZ.out] at hsz
      by_cases hkm : k < m
      · obtain ⟨b, off, rfl, hc⟩ := (urow_below HU.out hbel (fun b off hb h0 => Nat.lt_succ_of_lt (HL.out b off hb h0))).2.2 k hkm
        have hcur := lastOr_lt base ps k hb HP.out.2.1 (by rw [HP.out.1]; omega)
        have hpk := HP.out.2.1 k
        have hg1 := hid (Plain.gaps_take base ps k (by rw [HP.out.1]; omega))
        have hg2 := hid (Plain.lastOr_take base ps k (by rw [HP.out.1]; omega))
        have hgl := Plain.gaps_len base (ps.take k)
        have htl : (ps.take k).length ≤ k := List.length_take_le _ _
        have hwr := wrap_gap (Plain.lastOr base (ps.take k)) (ps.getD k 0) hcur hpk
        have HW := hid hwr
        clear hwr
        generalize Plain.lastOr base (ps.take k) = cur at *
        generalize ps.getD k 0 = p at *
        go_wp2_with fail
        rw [HW.out]
        refine (appendUv_any (w.heap.size + 1) (n + (Plain.uv hd ++ Plain.gaps base (ps.take k)).length) (Plain.gap cur p) (Plain.gap_lt cur p) _ (xs ++ (Plain.uv hd ++ Plain.gaps base (ps.take k))) _ (Or.inl hown) hsz (by simp; omega)).mono ?_
        rintro e w2 ⟨v2, rfl, ho2, hb2⟩
        have O2 : Hid (w2.ownsRow (w.heap.size + 1) 5 1 v2 (n + (Plain.uv hd ++ Plain.gaps base (ps.take (k + 1))).length) (bs (xs ++ (Plain.uv hd ++ Plain.gaps base (ps.take (k + 1)))))) := by
          unfold Hid
          rw [hg1.out]
          have e1 : n + (Plain.uv hd ++ (Plain.gaps base (ps.take k) ++ Plain.uv (Plain.gap cur p))).length = n + (Plain.uv hd ++ Plain.gaps base (ps.take k)).length + (Plain.uv (Plain.gap cur p)).length := by simp; omega
          have e2 : xs ++ (Plain.uv hd ++ (Plain.gaps base (ps.take k) ++ Plain.uv (Plain.gap cur p))) = xs ++ (Plain.uv hd ++ Plain.gaps base (ps.take k)) ++ Plain.uv (Plain.gap cur p) := by simp
          rw [e1, e2]; exact ho2
        have B2 := hid (hbel.trans hb2)
        clear ho2 hb2 hown hbel hg1 HW
        go_wp2
        go_roundw
        case rel => exact ⟨k + 1, by omega, by go_num, by rw [hg2.out], O2.out, B2.out⟩
        case measure => simp [intOf]; omega
      · rw [List.take_of_length_le (by rw [HP.out.1]; omega), ← HF.out] at hown
        have O2 := hid (ownsRow_mono hown (show w.heap.size ≤ w.heap.size + 1 by omega))
        have B2 := hid (HA.out.trans (hbel.mono (by omega)))
        clear hown hbel
        go_wp2
        go_ret
        exact ⟨_, rfl, O2.out, B2.out⟩
end Go.Proofs.Qxb6628550a
