import Derived.Test.Qxb6628550aSplit
namespace Go.Proofs.Qxb6628550a
open Go.RowKit
set_option linter.unusedVariables false
set_option linter.unusedSimpArgs false

/-- What the walk is told of a slice of bytes. -/
def BRow (w : World) (a : Option Addr) (n : Nat) (l : List Nat) : Prop :=
  l.length = n ∧ ∀ j, j < n → ∃ b off, a = some ⟨b, off, none⟩ ∧ w.cell? ⟨b, off + j, none⟩ = some (.int .u8 (l.getD j 0 : Nat))
theorem brow_below {B : Nat} {w w' : World} {a : Option Addr} {n : Nat} {l : List Nat} (h : BRow w a n l) (hb : Below B w w') (hlt : ∀ b off, a = some ⟨b, off, none⟩ → 0 < n → b < B) : BRow w' a n l := by
  refine ⟨h.1, fun j hj => ?_⟩
  obtain ⟨b, off, ha, hc⟩ := h.2 j hj
  exact ⟨b, off, ha, (hb.cell (p := ⟨b, off + j, none⟩) (hlt b off ha (by omega))).trans hc⟩

theorem zzRec_any (a1 : Int) (a a' : Option Addr) (n c n' c' : Nat) (m : Bool) (hn : n ≤ 9223372036854775807) (hn' : n' ≤ 9223372036854775807) (w : World) :
    Calls Try.prog 5 #[.slice a n c, .int .u64 a1, .slice a' n' c', .bool m] w fun e w' => IsBool e ∧ w' = w := by
  go_enter Try.func5, Try.ntmps5
  go_wp2
  all_goals (go_ret; exact ⟨⟨_, rfl⟩, rfl⟩)

theorem bs_set (l : List Nat) (j x : Nat) : (bs l).set j (.int .u8 (x : Int)) = bs (l.set j x) := by simp [bs, List.map_set]
theorem bs_replicate (n : Nat) : (madeCells #[Value.int .u8 0] n).toList = bs (List.replicate n 0) := by
  rw [toList_madeCells_one]
  simp [bs]
theorem own_store {B g n cap : Nat} {w0 wr : World} {o : List Nat} (h : wr.ownsRow B 5 1 (.slice (some ⟨g, 0, none⟩) n cap) n (bs o)) (hb : Below B w0 wr) (hg : B ≤ g) (k x : Nat) :
    (wr.setCell ⟨g, k, none⟩ (.int .u8 (x : Int))).ownsRow B 5 1 (.slice (some ⟨g, 0, none⟩) n cap) n (bs (o.set k x)) ∧ Below B w0 (wr.setCell ⟨g, k, none⟩ (.int .u8 (x : Int))) :=
  ⟨by rw [← bs_set]; exact (h.stored k _).1, hb.setCell hg _⟩
theorem copy_step (l : List Nat) (k : Nat) (h : k < l.length) : (l.take k ++ List.replicate (l.length - k) 0).set k (l.getD k 0) = l.take (k + 1) ++ List.replicate (l.length - (k + 1)) 0 := by
  have hk : (l.take k).length = k := by simp; omega
  obtain ⟨m, hm⟩ : ∃ m, l.length - k = m + 1 := ⟨l.length - k - 1, by omega⟩
  rw [hm, show l.length - (k + 1) = m by omega, List.replicate_succ]
  rw [List.set_append_right _ _ (by omega), hk, Nat.sub_self, List.set_cons_zero]
  rw [List.take_succ_eq_append_getElem h, List.append_assoc]
  simp [List.getD, h, -List.take_append_getElem]

/-- A copy of a slice of bytes: it has no room, and it lies in new memory. -/
def Copy (w w' : World) (v : Value) (n : Nat) (l : List Nat) : Prop :=
  ∃ a, v = .slice a n n ∧ BRow w' a n l ∧ Full w' (.slice a n n) n (bs l) ∧ (a = none → n = 0) ∧ ∀ b off, a = some ⟨b, off, none⟩ → w.heap.size ≤ b ∧ b < w'.heap.size

set_option maxRecDepth 20000 in
set_option maxHeartbeats 400000 in
theorem clone_any (a : Option Addr) (n c : Nat) (l : List Nat) (hn : n ≤ 1048576) (w : World) (hb : BRow w a n l) (hnone : a = none → n = 0) (hlt : ∀ b off, a = some ⟨b, off, none⟩ → 0 < n → b < w.heap.size) :
    Calls Try.prog 6 #[.slice a n c] w fun e w' => ∃ v, e = .returned v ∧ Copy w w' v n l ∧ Below w.heap.size w w' := by
  obtain ⟨i0, hi, hz0, hz1, hz2⟩ := info_parts Try.info5
  have HB := hid hb
  have HL := hid hlt
  have hln := hb.1
  have hnn := fun (wx : World) => Lib.run_eql_slice_nil (P := Try.prog) wx 22 5 a n c 0 0 Try.underlying22
  cases a with
  | none =>
    obtain rfl := hnone rfl
    have hl0 : l = [] := List.eq_nil_of_length_eq_zero hln
    clear hb hlt hnone hln
    go_enter Try.func6, Try.ntmps6
    go_wp2
    go_ret
    refine ⟨_, rfl, ⟨none, rfl, HB.out, Or.inl ⟨rfl, rfl, by rw [hl0]; rfl⟩, fun _ => rfl, fun b off e => by simp at e⟩, Below.refl _ _⟩
  | some ad =>
    have HN := hid hln
    clear hb hlt hnone hln
    go_enter Try.func6, Try.ntmps6
    go_wp2_with (at_make; refine wpList_make_full _ rfl _ _ 22 rfl w.heap.size 5 i0 (.int .u8 0) 1 Try.underlying22 hi hz0 hz1 _ _ _ _ n rfl rfl rfl rfl ?m1 ?m2 ?m3 ?_)
    case m1 => rw [hz2]; omega
    case m2 => unfold maxLen; omega
    case m3 => exact Nat.le_refl _
    intro w1 ho1 hg1
    have hb1 : Below w.heap.size w w1 := (Below.refl _ _).grown hg1 (Nat.le_refl _) (by simp)
    have hown1 : Hid (w1.ownsRow w.heap.size 5 1 (.slice (some ⟨w.heap.size, 0, none⟩) n n) n (bs (l.take 0 ++ List.replicate (l.length - 0) 0))) := by
      unfold Hid; rw [HN.out]; rw [← Nat.sub_zero n] at ho1; simpa [bs_replicate] using ho1
    clear ho1 hg1
    go_wp2
    clear hnn
    go_loopw [4] (fun i wr => ∃ k : Nat, k ≤ n ∧ i = .int .i64 k ∧ wr.ownsRow w.heap.size 5 1 (.slice (some ⟨w.heap.size, 0, none⟩) n n) n (bs (l.take k ++ List.replicate (l.length - k) 0)) ∧ Below w.heap.size w wr) (fun i _ => n - (intOf i).toNat)
    case atStart => exact ⟨0, Nat.zero_le _, rfl, hown1.out, hb1⟩
    case round =>
      obtain ⟨k, hk, rfl, hown, hbel⟩ := hrel
      clear hown1 hb1
      by_cases hkn : k < n
      · obtain ⟨b, off, had, hc0⟩ := HB.out.2 k hkn
        have hbb := HL.out b off had (by omega)
        simp only [Option.some.injEq] at had
        subst had
        have ca := (hbel.cell (p := ⟨b, off + k, none⟩) hbb).trans hc0
        obtain ⟨u, cu⟩ : ∃ u, wr.cell? ⟨w.heap.size, k, none⟩ = some u := ⟨_, by rw [hown.cellAt k (by omega)]; exact bs_get _ k (by simp; rw [HN.out]; omega)⟩
        have fu := hown.frozenAt k
        have st := own_store hown hbel (Nat.le_refl _) k (l.getD k 0)
        rw [copy_step l k (by rw [HN.out]; omega)] at st
        have ST := hid st
        clear hown st hc0 hbel
        generalize l.getD k 0 = x at ca ST
        go_wp2
        go_roundw
        case rel => exact ⟨k + 1, by omega, by go_num, ST.out.1, ST.out.2⟩
        case measure => simp [intOf]; omega
      · have hfin : wr.ownsRow w.heap.size 5 1 (.slice (some ⟨w.heap.size, 0, none⟩) n n) n (bs l) := by
          have e : l.take k ++ List.replicate (l.length - k) 0 = l := by
            rw [List.take_of_length_le (by rw [HN.out]; omega), show l.length - k = 0 by rw [HN.out]; omega]; simp
          rwa [e] at hown
        have hlt2 := (hfin.lt w.heap.size rfl).2
        have FIN : Hid (Copy w wr (.slice (some ⟨w.heap.size, 0, none⟩) n n) n l) := by
          refine ⟨some ⟨w.heap.size, 0, none⟩, rfl, ⟨HN.out, fun j hj => ⟨w.heap.size, 0, rfl, ?_⟩⟩, Or.inr ⟨w.heap.size, rfl, by rw [bs_len, HN.out], fun j u hj => ?_⟩, by simp, fun b off e => ?_⟩
          · rw [Nat.zero_add, hfin.cellAt j (by omega)]; exact bs_get l j (by rw [HN.out]; omega)
          · have := hfin.cells rfl j u hj
            rw [Addr.add_lit, Nat.zero_add] at this
            exact this
          · simp at e; omega
        have BEL := hid hbel
        clear hown hfin hbel
        go_wp2
        go_ret
        exact ⟨_, rfl, FIN.out, BEL.out⟩
end Go.Proofs.Qxb6628550a
