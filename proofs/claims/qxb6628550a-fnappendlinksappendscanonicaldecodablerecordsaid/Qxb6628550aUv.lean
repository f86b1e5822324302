import Derived.Test.Qxb6628550aRows
import Derived.Test.Qxb6628550aPlain
import Derived.WalkKit
import Derived.WalkSpells
import Derived.WalkLawsBesides
import Derived.ArgAppend
import Derived.Laws.Bits128
namespace Go.Proofs.Qxb6628550a
open Go.RowKit
set_option linter.unusedVariables false
set_option linter.unusedSimpArgs false

theorem Try.info5 : (Try.prog.info? 5).map (fun i => (i.zero, i.size, i.bytes)) = some (some (.int .u8 0), 1, 1) := by kernel_rfl
theorem hid {p : Prop} (h : p) : Hid p := h
theorem ret_int {k : IntKind} {a b : Int} (h : a = b) : Ending.returned (.int k a) = .returned (.int k b) := by rw [h]

/-- The cells of a list of bytes. -/
def bs (l : List Nat) : List Value := l.map fun x : Nat => Value.int .u8 (x : Int)
theorem bs_len (l : List Nat) : (bs l).length = l.length := by simp [bs]
theorem bs_append (a b : List Nat) : bs (a ++ b) = bs a ++ bs b := by simp [bs]
theorem bs_one (l : List Nat) : ∀ u ∈ bs l, u.oneCell' = true := by
  intro u hu
  obtain ⟨_, _, rfl⟩ := List.mem_map.1 hu
  rfl
theorem bs_get (l : List Nat) (j : Nat) (h : j < l.length) : (bs l)[j]? = some (.int .u8 (l.getD j 0 : Nat)) := by
  simp [bs, List.getD, h]

theorem ownsRow_mono {w : World} {B B' : Nat} {e : TypeId} {size : Nat} {v : Value} {n : Nat} {xs : List Value} (h : w.ownsRow B e size v n xs) (hB : B' ≤ B) : w.ownsRow B' e size v n xs := by
  obtain ⟨h1, h2⟩ := h
  refine ⟨h1, ?_⟩
  rcases h2 with h2 | ⟨g, cap, cur, hv, hg, r⟩
  · exact Or.inl h2
  · exact Or.inr ⟨g, cap, cur, hv, Nat.le_trans hB hg, r⟩
/-- A slice that can be appended to so that the outcome is ours from block B on: it is ours already, or it is full. -/
def Ready (w : World) (B : Nat) (v : Value) (n : Nat) (xs : List Value) : Prop :=
  w.ownsRow B 5 1 v n xs ∨ ∃ g, v = .slice (some ⟨g, 0, none⟩) n n ∧ xs.length = n ∧ ∀ j u, xs[j]? = some u → w.cell? ⟨g, j, none⟩ = some u
theorem Ready.alloc {w : World} {B : Nat} {v : Value} {n : Nat} {xs : List Value} (h : Ready w B v n xs) (o : Obj) : Ready (w.alloc o) B v n xs := by
  rcases h with h | ⟨g, hv, hl, hc⟩
  · exact Or.inl (h.alloc o)
  · refine Or.inr ⟨g, hv, hl, fun j u hj => ?_⟩
    have := hc j u hj
    rw [World.cell?_alloc_lt _ _ _ (World.block_lt_of_cell? w _ this)]
    exact this
theorem wpList_append_ready (w : World) {ops : Array Oper} {rest : List Oper} {o : Oper} {a : Act} {Q : Exit → Act → World → Prop} (hgd : o.guard = none) (s x : Operand)
    (ho : o.op = .call { callee := .builtin .append, args := #[s, x], argTypes := #[22, 22] })
    (B : Nat) (v : Value) (n : Nat) (xs : List Value) (hs : a.eval s = v) (hr : Ready w B v n xs)
    (ad : Addr) (m c : Nat) (news : List Value) (hx : a.eval x = .slice (some ad) m c) (hl : news.length = m) (hm : 0 < m) (hnews : ∀ j u, news[j]? = some u → w.cell? (ad.add j) = some u) (h1 : ∀ u ∈ news, u.oneCell' = true)
    (hb : n + m ≤ 140737488355328) (hB : B ≤ w.heap.size)
    (h : ∀ v' w', w'.ownsRow B 5 1 v' (n + m) (xs ++ news) → Below B w w' → wpList Try.prog ops Q rest (a.put o.dst v') w') : wpList Try.prog ops Q (o :: rest) a w := by
  obtain ⟨i0, hi, hz0, hz1, hz2⟩ := info_parts Try.info5
  have hml : n + m ≤ maxLen := by unfold maxLen; omega
  rcases hr with hr | ⟨g, hv, hlx, hc⟩
  · exact wpList_append_own w hgd s x 22 ho B 5 i0 (.int .u8 0) 1 1 Try.underlying22 hi hz0 hz1 hz2 rfl (by decide) v n xs hs hr ad m c news hx (by omega) hnews h1 hml (by omega) hB
      (fun v' w' o' g' _ => h v' w' o' ((Below.refl _ _).grown g' hB (fun k hk => (hr.lt k hk).1)))
  · subst hv
    refine wpList_append_grows w hgd s x 22 ho 5 i0 (.int .u8 0) 1 1 Try.underlying22 hi hz0 hz1 hz2 rfl (by decide) (some ⟨g, 0, none⟩) n n xs hs (by simp) (by omega) ?_ ad m c news hx (by omega) hnews h1 (by omega) hml (by omega)
      (fun v' w' o' g' => h v' w' (ownsRow_mono o' hB) ((Below.refl _ _).grown g' hB (by simp)))
    intro b hbe j u hj
    simp at hbe
    subst hbe
    have := hc j u hj
    rw [Addr.add_lit, Nat.zero_add]
    exact this

theorem or128_nat : ∀ z : Fin 256, z.val ||| 128 = 128 + z.val % 128 := by decide +kernel
theorem u8_or128 (z : Nat) (h : z < 256) : bits .or .u8 (z : Int) 128 = ((128 + z % 128 : Nat) : Int) := by
  have := u8_or_nat z 128 h (by omega)
  rw [show ((128 : Nat) : Int) = 128 from rfl] at this
  rw [this, or128_nat ⟨z, h⟩]

set_option maxRecDepth 20000 in
set_option maxHeartbeats 400000 in
theorem appendUv_any (B n x : Nat) (hx : x < 18446744073709551616) (v : Value) (xs : List Nat) (w : World) (hr : Ready w B v n (bs xs)) (hB : B ≤ w.heap.size) (hn : n ≤ 140737488355000) :
    Calls Try.prog 10 #[v, .int .u64 x] w fun e w' => ∃ v', e = .returned v' ∧ w'.ownsRow B 5 1 v' (n + (Plain.uv x).length) (bs (xs ++ Plain.uv x)) ∧ Below B w w' := by
  have hlen := (Plain.uv_len x).2
  go_enter Try.func10, Try.ntmps10
  go_wp2
  go_loopw [0, 1] (fun vb vx wr => ∃ (f y : Nat) (pre : List Nat), f ≤ 9 ∧ y < 128 ^ f * 128 ∧ vx = .int .u64 y ∧ Plain.uv x = pre ++ Plain.uvF f y ∧ Ready wr B vb (n + pre.length) (bs (xs ++ pre)) ∧ Below B w wr)
    (fun _ vx _ => (intOf vx).toNat)
  case atStart => exact ⟨9, x, [], Nat.le_refl _, by omega, rfl, rfl, by simpa using hr, Below.refl _ _⟩
  case round =>
    obtain ⟨f, y, pre, hf, hy, rfl, hsp, hrd, hbel⟩ := hrel
    have HY := hid hy
    have HS := hid hsp
    clear hy hsp
    have hbl := hbel.size
    have hBr : B ≤ wr.heap.size := by omega
    have hpl : pre.length + (Plain.uvF f y).length ≤ 10 := by rw [HS.out, List.length_append] at hlen; exact hlen
    have hul := (Plain.uvF_len f y).1
    by_cases h128 : 128 ≤ y
    · have hor := u8_or128 (y % 256) (by omega)
      rw [show ((y % 256 : Nat) : Int) = (y : Int) % 256 by omega] at hor
      obtain ⟨f', rfl⟩ : ∃ f', f = f' + 1 := by
        cases f with
        | zero => have := HY.out; simp at this; omega
        | succ f' => exact ⟨f', rfl⟩
      have hsp' : Plain.uv x = (pre ++ [128 + y % 256 % 128]) ++ Plain.uvF f' (y / 128) := by
        rw [HS.out, Plain.uvF_big f' y h128, show y % 256 % 128 = y % 128 by omega]; simp
      have HS' := hid hsp'
      have HY' : Hid (y / 128 < 128 ^ f' * 128) := by have := HY.out; rw [Nat.pow_succ] at this; unfold Hid; omega
      clear hsp' HS HY
      generalize 128 + y % 256 % 128 = d at hor HS'
      have hB2 : B ≤ (wr.alloc (.cells #[Value.int .u8 (d : Int)] 5)).heap.size := by simp; omega
      have hrd' := hid (hrd.alloc (.cells #[Value.int .u8 (d : Int)] 5))
      go_wp2_with (at_builtin; refine wpList_append_ready _ rfl _ _ rfl B _ (n + pre.length) (bs (xs ++ pre)) rfl hrd'.out ⟨wr.heap.size, 0, none⟩ 1 1 [.int .u8 (d : Int)] rfl rfl (by decide) (cell_one_new _ _ _) ?c4 ?c5 hB2 ?_)
      case c4 => intro u hu; simp at hu; subst hu; rfl
      case c5 => omega
      intro v' w1 ho1 hb1
      have R1 : Hid (Ready w1 B v' (n + (pre ++ [d]).length) (bs (xs ++ (pre ++ [d])))) := by
        refine hid (Or.inl ?_)
        have e1 : n + (pre ++ [d]).length = n + pre.length + 1 := by simp; omega
        have e2 : bs (xs ++ (pre ++ [d])) = bs (xs ++ pre) ++ [.int .u8 (d : Int)] := by simp [bs]
        rw [e1, e2]; exact ho1
      have B1 : Hid (Below B w w1) := (hbel.alloc hBr _).trans hb1
      clear ho1 hb1 hbel hrd hrd'
      go_wp2
      go_roundw
      case rel => exact ⟨f', y / 128, pre ++ [d], by omega, HY'.out, by go_num, HS'.out, R1.out, B1.out⟩
      case measure => simp [intOf]; omega
    · have hs1 : Plain.uv x = pre ++ [y] := by rw [HS.out, Plain.uvF_small f y (by omega)]
      have HF := hid hs1
      clear hs1 HS HY
      have hm : (y : Int) % 256 = y := by omega
      have hB2 : B ≤ (wr.alloc (.cells #[Value.int .u8 (y : Int)] 5)).heap.size := by simp; omega
      have hrd' := hid (hrd.alloc (.cells #[Value.int .u8 (y : Int)] 5))
      go_wp2_with (at_builtin; refine wpList_append_ready _ rfl _ _ rfl B _ (n + pre.length) (bs (xs ++ pre)) rfl hrd'.out ⟨wr.heap.size, 0, none⟩ 1 1 [.int .u8 (y : Int)] rfl rfl (by decide) (cell_one_new _ _ _) ?d4 ?d5 hB2 ?_)
      case d4 => intro u hu; simp at hu; subst hu; rfl
      case d5 => omega
      intro v' w1 ho1 hb1
      have R1 : Hid (w1.ownsRow B 5 1 v' (n + (Plain.uv x).length) (bs (xs ++ Plain.uv x))) := by
        unfold Hid
        have e1 : n + (Plain.uv x).length = n + pre.length + 1 := by rw [HF.out]; simp; omega
        have e2 : bs (xs ++ Plain.uv x) = bs (xs ++ pre) ++ [.int .u8 (y : Int)] := by rw [HF.out]; simp [bs]
        rw [e1, e2]; exact ho1
      have B1 : Hid (Below B w w1) := (hbel.alloc hBr _).trans hb1
      clear ho1 hb1 hbel hrd hrd'
      go_wp2
      go_ret
      exact ⟨v', rfl, R1.out, B1.out⟩
end Go.Proofs.Qxb6628550a
