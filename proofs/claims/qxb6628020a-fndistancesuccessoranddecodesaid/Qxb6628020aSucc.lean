import Derived.Test.Qxb6628020aReads
namespace Go.Proofs.Qxb6628020a
open Go.RowKit
set_option linter.unusedVariables false
set_option linter.unusedSimpArgs false

theorem bs_set (l : List Nat) (j x : Nat) : (bs l).set j (.int .u8 (x : Int)) = bs (l.set j x) := by simp [bs, List.map_set]
theorem bs_replicate (n : Nat) : (madeCells #[Value.int .u8 0] n).toList = bs (List.replicate n 0) := by
  rw [toList_madeCells_one]
  simp [bs]
/-- A store into a row of our own: the row, what lies below, the other row. -/
theorem own_store {B g n cap : Nat} {w0 wr : World} {o : List Nat} (h : wr.ownsRow B 5 1 (.slice (some ⟨g, 0, none⟩) n cap) n (bs o)) (hb : Below B w0 wr) (hg : B ≤ g) (k x : Nat) :
    (wr.setCell ⟨g, k, none⟩ (.int .u8 (x : Int))).ownsRow B 5 1 (.slice (some ⟨g, 0, none⟩) n cap) n (bs (o.set k x)) ∧ Below B w0 (wr.setCell ⟨g, k, none⟩ (.int .u8 (x : Int))) :=
  ⟨by rw [← bs_set]; exact (h.stored k _).1, hb.setCell hg _⟩

/-- What lies in 'out' after k rounds of the copy. -/
theorem copy_step (l : List Nat) (k : Nat) (h : k < l.length) : (l.take k ++ List.replicate (l.length - k) 0).set k (l.getD k 0) = l.take (k + 1) ++ List.replicate (l.length - (k + 1)) 0 := by
  have hk : (l.take k).length = k := by simp; omega
  obtain ⟨m, hm⟩ : ∃ m, l.length - k = m + 1 := ⟨l.length - k - 1, by omega⟩
  rw [hm, show l.length - (k + 1) = m by omega, List.replicate_succ]
  rw [List.set_append_right _ _ (by omega), hk, Nat.sub_self, List.set_cons_zero]
  rw [List.take_succ_eq_append_getElem h, List.append_assoc]
  simp [List.getD, h, -List.take_append_getElem]
/-- What lies in 'out' when the carry has reached place k. -/
def carried (l : List Nat) (k : Nat) : List Nat := l.take k ++ (l.drop k).map Plain.clr
theorem carried_all (l : List Nat) : carried l l.length = l := by simp [carried]
theorem carried_len (l : List Nat) (k : Nat) : (carried l k).length = l.length := by simp [carried]; omega
theorem carried_set (l : List Nat) (k x : Nat) (h : k < l.length) : (carried l (k + 1)).set k x = l.take k ++ [x] ++ (l.drop (k + 1)).map Plain.clr := by
  have hk : (l.take k).length = k := by simp; omega
  unfold carried
  rw [List.take_succ_eq_append_getElem h, List.append_assoc, List.append_assoc, List.set_append_right _ _ (by omega), hk, Nat.sub_self]
  simp
theorem carried_step (l : List Nat) (k : Nat) (h : k < l.length) : (carried l (k + 1)).set k (Plain.clr (l.getD k 0)) = carried l k := by
  rw [carried_set l k _ h]
  unfold carried
  rw [List.drop_eq_getElem_cons h, List.map_cons, List.append_assoc]
  have : l.getD k 0 = l[k] := by simp [List.getD, h]
  rw [this]; rfl
theorem fill_step (n k : Nat) (h : k < n + 1) : (List.replicate k 128 ++ List.replicate (n + 1 - k) 0).set k 128 = List.replicate (k + 1) 128 ++ List.replicate (n + 1 - (k + 1)) (0 : Nat) := by
  obtain ⟨m, hm⟩ : ∃ m, n + 1 - k = m + 1 := ⟨n - k, by omega⟩
  rw [hm, show n + 1 - (k + 1) = m by omega, List.replicate_succ]
  rw [List.set_append_right _ _ (by simp)]
  simp [List.replicate_succ']

theorem row_own {w : World} {base g n cap : Nat} {l : List Nat} (h : w.ownsRow base 5 1 (.slice (some ⟨g, 0, none⟩) n cap) n (bs l)) (hn : n = l.length) : Row w g l := by
  subst hn
  intro j hj
  rw [h.cellAt j (by omega)]
  exact bs_get l j hj
theorem row_keep {B : Nat} {w w' : World} {g : Nat} {l : List Nat} (h : Row w g l) (hb : Below B w w') (hg : g < B) : Row w' g l :=
  fun j hj => (hb.cell (p := ⟨g, j, none⟩) hg).trans (h j hj)

set_option maxHeartbeats 800000 in
theorem succ_any (ga c : Nat) (D : Nat) (hD : D + 1 < 9223372036854775808) (w : World) (hga : ga < w.heap.size) (hr : Row w ga (Plain.enc D)) :
    Calls Try.prog 9 #[.slice (some ⟨ga, 0, none⟩) (Plain.enc D).length c] w fun e w' => ∃ g cap, e = .returned (.slice (some ⟨g, 0, none⟩) (Plain.enc (D + 1)).length cap) ∧
      Row w' g (Plain.enc (D + 1)) ∧ Below w.heap.size w w' := by
  have hl := Plain.enc_len D
  have h1 : 1 ≤ (Plain.enc D).length := hl.1
  have h2 : (Plain.enc D).length ≤ 9 := hl.2
  have HR : Hid (Row w ga (Plain.enc D)) := hr
  have hrg : Hid (∀ i, (Plain.enc D).getD i 0 < 256) := fun i => Plain.enc_getD D i
  have hsa : Hid (∀ i, i < (Plain.enc D).length → (Plain.enc D).getD i 0 % 128 ≠ 127 → (∀ y ∈ (Plain.enc D).drop (i + 1), y % 128 = 127) →
      Plain.enc (D + 1) = (Plain.enc D).take i ++ [(Plain.enc D).getD i 0 + 1] ++ ((Plain.enc D).drop (i + 1)).map Plain.clr) := Plain.enc_succ_at D
  have hsb : Hid ((∀ y ∈ Plain.enc D, y % 128 = 127) → Plain.enc (D + 1) = List.replicate (Plain.enc D).length 128 ++ [0]) := Plain.enc_succ_all D (by omega)
  clear hr hl
  generalize Plain.enc (D + 1) = r at *
  generalize Plain.enc D = l at *
  obtain ⟨i0, hi, hz0, hz1, hz2⟩ := info_parts Try.info5
  go_enter Try.func9, Try.ntmps9
  go_wp2_with (at_make; refine wpList_make_full _ rfl _ _ 22 rfl w.heap.size 5 i0 (.int .u8 0) 1 Try.underlying22 hi hz0 hz1 _ _ _ _ l.length rfl rfl rfl rfl ?m1 ?m2 ?m3 ?_)
  case m1 => rw [hz2]; omega
  case m2 => unfold maxLen; omega
  case m3 => exact Nat.le_refl _
  intro w1 ho1 hg1
  rw [bs_replicate] at ho1
  have hb1 : Below w.heap.size w w1 := (Below.refl _ _).grown hg1 (Nat.le_refl _) (by simp)
  go_wp2
  have hown1 : Hid (w1.ownsRow w.heap.size 5 1 (.slice (some ⟨w.heap.size, 0, none⟩) l.length l.length) l.length (bs (l.take 0 ++ List.replicate (l.length - 0) 0))) := by unfold Hid; simpa using ho1
  clear ho1 hg1
  go_loopw [5] (fun i wr => ∃ k : Nat, k ≤ l.length ∧ i = .int .i64 k ∧ wr.ownsRow w.heap.size 5 1 (.slice (some ⟨w.heap.size, 0, none⟩) l.length l.length) l.length (bs (l.take k ++ List.replicate (l.length - k) 0)) ∧ Below w.heap.size w wr) (fun i _ => l.length - (intOf i).toNat)
  case atStart => exact ⟨0, Nat.zero_le _, rfl, hown1.out, hb1⟩
  case round =>
    obtain ⟨k, hk, rfl, hown, hbel⟩ := hrel
    clear hown1 hb1
    by_cases hkn : k < l.length
    · have ca := (hbel.cell (p := ⟨ga, k, none⟩) hga).trans (HR.out k hkn)
      obtain ⟨u, cu⟩ : ∃ u, wr.cell? ⟨w.heap.size, k, none⟩ = some u := ⟨_, by rw [hown.cellAt k (by omega)]; exact bs_get _ k (by simp; omega)⟩
      have fu := hown.frozenAt k
      have st := own_store hown hbel (Nat.le_refl _) k (l.getD k 0)
      rw [copy_step l k hkn] at st
      have ST : Hid _ := st
      clear hown st
      generalize l.getD k 0 = x at ca ST
      go_wp2
      go_roundw
      case rel => exact ⟨k + 1, by omega, by go_num, ST.out.1, ST.out.2⟩
      case measure => simp [intOf]; omega
    · have ek : k = l.length := by omega
      subst ek
      have hown2 : Hid (wr.ownsRow w.heap.size 5 1 (.slice (some ⟨w.heap.size, 0, none⟩) l.length l.length) l.length (bs (carried l l.length))) := by
        unfold Hid; rw [carried_all]; simpa using hown
      clear hown hkn
      go_wp2
      have hb2 := hbel
      clear hbel
      go_loopw [6] (fun i wr => ∃ k : Nat, k ≤ l.length ∧ i = .int .i64 ((k : Int) - 1) ∧ wr.ownsRow w.heap.size 5 1 (.slice (some ⟨w.heap.size, 0, none⟩) l.length l.length) l.length (bs (carried l k)) ∧ (∀ y ∈ l.drop k, y % 128 = 127) ∧ Below w.heap.size w wr) (fun i _ => (intOf i + 1).toNat)
      case atStart => exact ⟨l.length, Nat.le_refl _, rfl, hown2.out, by simp, hb2⟩
      case round =>
        obtain ⟨k, hk, rfl, hown, hall, hbel⟩ := hrel
        clear hown2 hb2
        have HALL : Hid (∀ y ∈ l.drop k, y % 128 = 127) := hall
        clear hall
        cases k with
        | zero =>
          have hfin : Hid (r = List.replicate l.length 128 ++ [0]) := hsb.out (by simpa using HALL.out)
          have hsz := hbel.size
          have e0 : ((0 : Nat) : Int) - 1 = -1 := rfl
          rw [e0]
          clear HALL hown e0
          go_wp2_with (at_make; refine wpList_make_full _ rfl _ _ 22 rfl w.heap.size 5 i0 (.int .u8 0) 1 Try.underlying22 hi hz0 hz1 _ _ _ _ (l.length + 1) rfl rfl ?m4 ?m4b ?m5 ?m6 ?m7 ?_)
          case m4 => simp
          case m4b => simp
          case m5 => rw [hz2]; omega
          case m6 => unfold maxLen; omega
          case m7 => exact hsz
          intro w3 ho3 hg3
          rw [bs_replicate] at ho3
          have hb3 : Below w.heap.size w w3 := hbel.grown hg3 hsz (by simp)
          go_wp2
          have hown3 : Hid (w3.ownsRow w.heap.size 5 1 (.slice (some ⟨wr.heap.size, 0, none⟩) (l.length + 1) (l.length + 1)) (l.length + 1) (bs (List.replicate 0 128 ++ List.replicate (l.length + 1 - 0) 0))) := by unfold Hid; simpa using ho3
          clear ho3 hg3 hbel
          generalize wr.heap.size = G at hsz hown3 ⊢
          go_loopw [8] (fun i w4 => ∃ k : Nat, k ≤ l.length ∧ i = .int .i64 k ∧ w4.ownsRow w.heap.size 5 1 (.slice (some ⟨G, 0, none⟩) (l.length + 1) (l.length + 1)) (l.length + 1) (bs (List.replicate k 128 ++ List.replicate (l.length + 1 - k) 0)) ∧ Below w.heap.size w w4) (fun i _ => l.length - (intOf i).toNat)
          case atStart => exact ⟨0, Nat.zero_le _, rfl, hown3.out, hb3⟩
          case round =>
            obtain ⟨k, hk, rfl, hown, hbel⟩ := hrel
            clear hown3 hb3
            obtain ⟨u, cu⟩ : ∃ u, wr.cell? ⟨G, k, none⟩ = some u := ⟨_, by rw [hown.cellAt k (by omega)]; exact bs_get _ k (by simp; omega)⟩
            have fu := hown.frozenAt k
            by_cases hkn : k < l.length
            · have st := own_store hown hbel hsz k 128
              rw [fill_step l.length k (by omega)] at st
              have ST : Hid _ := st
              clear hown st
              go_wp2
              go_roundw
              case rel => exact ⟨k + 1, by omega, by go_num, ST.out.1, ST.out.2⟩
              case measure => simp [intOf]; omega
            · have ek : k = l.length := by omega
              subst ek
              have st := own_store hown hbel hsz l.length 0
              have el : (List.replicate l.length 128 ++ List.replicate (l.length + 1 - l.length) 0).set l.length 0 = r := by
                rw [hfin.out, show l.length + 1 - l.length = 1 by omega]
                simp
              rw [el] at st
              have hlen : Hid (r.length = l.length + 1) := by unfold Hid; rw [hfin.out]; simp
              have ST : Hid _ := st
              clear hown st el hkn
              go_wp2
              go_ret
              refine ⟨G, l.length + 1, ?_, ?_, ST.out.2⟩
              · rw [hlen.out]; rfl
              · exact row_own ST.out.1 hlen.out.symm
        | succ k =>
          have hkn : k < l.length := by omega
          have ca := (hbel.cell (p := ⟨ga, k, none⟩) hga).trans (HR.out k hkn)
          obtain ⟨u, cu⟩ : ∃ u, wr.cell? ⟨w.heap.size, k, none⟩ = some u := ⟨_, by rw [hown.cellAt k (by omega)]; exact bs_get _ k (by rw [carried_len]; omega)⟩
          have fu := hown.frozenAt k
          have e7 := u8_and127 (l.getD k 0) (hrg.out k)
          have e8 := u8_and128 (l.getD k 0) (hrg.out k)
          have hx := hrg.out k
          by_cases hq : l.getD k 0 % 128 = 127
          · have st := own_store hown hbel (Nat.le_refl _) k (Plain.clr (l.getD k 0))
            rw [carried_step l k hkn] at st
            have ST : Hid _ := st
            have HALL' : Hid (∀ y ∈ l.drop k, y % 128 = 127) := by
              intro y hy
              rw [List.drop_eq_getElem_cons hkn] at hy
              rcases List.mem_cons.1 hy with rfl | hy
              · simpa [List.getD, hkn] using hq
              · exact HALL.out y hy
            have ec : Hid (((Plain.clr (l.getD k 0) : Nat) : Int) = ((l.getD k 0 : Nat) : Int) / 128 * 128) := by unfold Hid Plain.clr; omega
            clear hown st HALL
            generalize Plain.clr (l.getD k 0) = xc at ST ec
            generalize l.getD k 0 = x at ca e7 e8 hx hq ec
            have hq' : (x : Int) % 128 = 127 := by omega
            rw [hq'] at e7
            rw [← ec.out] at e8
            clear hq hq'
            go_wp2
            go_roundw
            case rel => exact ⟨k, by omega, by go_num, ST.out.1, HALL'.out, ST.out.2⟩
            case measure => simp [intOf]
          · have st := own_store hown hbel (Nat.le_refl _) k (l.getD k 0 + 1)
            rw [carried_set l k _ hkn, ← hsa.out k hkn hq HALL.out] at st
            have hlen : Hid (r.length = l.length) := by
              unfold Hid; rw [hsa.out k hkn hq HALL.out]; simp; omega
            have ST : Hid _ := st
            clear hown st HALL
            generalize l.getD k 0 = x at ca e7 e8 hx hq ST
            have hq' : ((x : Int) % 128 != 127) = true := by rw [bne_iff_ne]; omega
            have hx' : x < 255 := by omega
            clear hq e8
            go_wp2
            go_ret
            refine ⟨w.heap.size, l.length, ?_, ?_, ST.out.2⟩
            · rw [hlen.out]; rfl
            · exact row_own ST.out.1 hlen.out.symm
end Go.Proofs.Qxb6628020a
