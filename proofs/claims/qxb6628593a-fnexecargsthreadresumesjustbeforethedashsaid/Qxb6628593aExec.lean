import Derived.Test.Qxb6628593aRows
import Derived.WalkKit
import Derived.WalkSpells
import Derived.WalkLawsBesides
import Derived.Laws.AppendOwnNone
import Derived.Deep.DeepCutAuto
namespace Go.Proofs.Qxb6628593a
open Go.RowKit
set_option linter.unusedVariables false
set_option linter.unusedSimpArgs false

theorem Try.info9 : (Try.prog.info? 9).map (fun i => (i.zero, i.size, i.bytes)) = some (some (.string ByteArray.empty), 1, 16) := by kernel_rfl
theorem hid {p : Prop} (h : p) : Hid p := h

/-- What the walk is told of a slice of strings: where there is an element, the slice leads to a plain row, and the element lies there. -/
def SRow (w : World) (a : Option Addr) (n : Nat) (ss : List ByteArray) : Prop :=
  ss.length = n ∧ ∀ j, j < n → ∃ b off, a = some ⟨b, off, none⟩ ∧ w.cell? ⟨b, off + j, none⟩ = some (.string (ss.getD j ByteArray.empty))
theorem srow_below {B : Nat} {w w' : World} {a : Option Addr} {n : Nat} {l : List ByteArray} (h : SRow w a n l) (hb : Below B w w') (hlt : ∀ b off, a = some ⟨b, off, none⟩ → 0 < n → b < B) : SRow w' a n l := by
  refine ⟨h.1, fun j hj => ?_⟩
  obtain ⟨b, off, ha, hc⟩ := h.2 j hj
  exact ⟨b, off, ha, (hb.cell (p := ⟨b, off + j, none⟩) (hlt b off ha (by omega))).trans hc⟩

def vs (l : List ByteArray) : List Value := l.map Value.string
theorem vs_len (l : List ByteArray) : (vs l).length = l.length := by simp [vs]
theorem vs_append (a b : List ByteArray) : vs (a ++ b) = vs a ++ vs b := by simp [vs]
theorem vs_one (l : List ByteArray) : ∀ u ∈ vs l, u.oneCell' = true := by
  intro u hu
  obtain ⟨_, _, rfl⟩ := List.mem_map.1 hu
  rfl
theorem vs_get (l : List ByteArray) (j : Nat) (h : j < l.length) : (vs l)[j]? = some (.string (l.getD j ByteArray.empty)) := by
  simp [vs, List.getD, h]
/-- The row at g holds the strings l. -/
def Row (w : World) (g : Nat) (l : List ByteArray) : Prop := ∀ j, j < l.length → w.cell? ⟨g, j, none⟩ = some (.string (l.getD j ByteArray.empty))
theorem row_own {w : World} {base g n cap : Nat} {l : List ByteArray} (h : w.ownsRow base 9 1 (.slice (some ⟨g, 0, none⟩) n cap) n (vs l)) (hn : n = l.length) : Row w g l := by
  subst hn
  intro j hj
  rw [h.cellAt j (by omega)]
  exact vs_get l j hj
theorem row_keep {B : Nat} {w w' : World} {g : Nat} {l : List ByteArray} (h : Row w g l) (hb : Below B w w') (hg : g < B) : Row w' g l :=
  fun j hj => (hb.cell (p := ⟨g, j, none⟩) hg).trans (h j hj)
theorem own_shape {w : World} {base : Nat} {e : TypeId} {size : Nat} {v : Value} {n : Nat} {xs : List Value} (h : w.ownsRow base e size v n xs) (hn : 0 < n) :
    ∃ g cap, v = .slice (some ⟨g, 0, none⟩) n cap ∧ base ≤ g ∧ g < w.heap.size := by
  rcases h.2 with ⟨_, h0⟩ | ⟨g, cap, cur, hv, hg, hh, _⟩
  · omega
  · exact ⟨g, cap, hv, hg, (Array.getElem?_eq_some_iff.1 hh).1⟩

/-- The first six words. -/
def head (dir fp : ByteArray) : List ByteArray := [⟨#[101, 120, 101, 99]⟩, ⟨#[45, 45, 106, 115, 111, 110]⟩, ⟨#[45, 45, 99, 100]⟩, dir, ⟨#[45, 45, 111, 117, 116, 112, 117, 116, 45, 108, 97, 115, 116, 45, 109, 101, 115, 115, 97, 103, 101]⟩, fp]
/-- What stands behind the extra words. -/
def tail (th : ByteArray) : List ByteArray := if th.toList.isEmpty = true then [⟨#[45]⟩] else [⟨#[114, 101, 115, 117, 109, 101]⟩, th, ⟨#[45]⟩]
def argv (dir fp : ByteArray) (ex : List ByteArray) (th : ByteArray) : List ByteArray := head dir fp ++ (ex ++ tail th)

/-- An append to a row of our own, the source nil or not. -/
theorem wpList_append_any (w : World) {ops : Array Oper} {rest : List Oper} {o : Oper} {a : Act} {Q : Exit → Act → World → Prop} (hgd : o.guard = none) (s x : Operand)
    (ho : o.op = .call { callee := .builtin .append, args := #[s, x], argTypes := #[22, 22] })
    (B : Nat) (v : Value) (n : Nat) (xs : List Value) (hs : a.eval s = v) (hr : w.ownsRow B 9 1 v n xs)
    (ao : Option Addr) (m c : Nat) (news : List ByteArray) (hx : a.eval x = .slice ao m c) (hl : news.length = m) (hnone : ao = none → m = 0 ∧ c = 0) (hnews : ∀ ad, ao = some ad → ∀ j u, (vs news)[j]? = some u → w.cell? (ad.add j) = some u)
    (hb : n + m ≤ 1048576000) (hB : B ≤ w.heap.size)
    (h : ∀ v' w', w'.ownsRow B 9 1 v' (n + m) (xs ++ vs news) → Below B w w' → wpList Try.prog ops Q rest (a.put o.dst v') w') : wpList Try.prog ops Q (o :: rest) a w := by
  obtain ⟨i0, hi, hz0, hz1, hz2⟩ := info_parts Try.info9
  have hml : n + m ≤ maxLen := by unfold maxLen; omega
  cases ao with
  | none =>
    obtain ⟨rfl, rfl⟩ := hnone rfl
    obtain rfl : news = [] := List.eq_nil_of_length_eq_zero hl
    exact wpList_append_own_none hgd s x 22 ho B 9 i0 1 Try.underlying22 hi v n xs hs hr hx (h v w (by simpa [vs] using hr) (Below.refl _ _))
  | some ad =>
    exact wpList_append_own w hgd s x 22 ho B 9 i0 (.string ByteArray.empty) 1 16 Try.underlying22 hi hz0 hz1 hz2 rfl (by decide) v n xs hs hr ad m c (vs news) hx (by rw [vs_len]; omega) (hnews ad rfl) (vs_one news) hml (by omega) hB
      (fun v' w' o' g' _ => h v' w' o' ((Below.refl _ _).grown g' hB (fun k hk => (hr.lt k hk).1)))
theorem news_of {w : World} {a : Option Addr} {n : Nat} {ss : List ByteArray} (h : SRow w a n ss) : ∀ ad, a = some ad → ∀ j u, (vs ss)[j]? = some u → w.cell? (ad.add j) = some u := by
  intro ad ha j u hu
  have hj : j < ss.length := by
    have := (List.getElem?_eq_some_iff.1 hu).1
    simpa [vs] using this
  obtain ⟨b, off, hb, hc⟩ := h.2 j (by rw [← h.1]; exact hj)
  rw [ha] at hb
  simp only [Option.some.injEq] at hb
  subst hb
  rw [Addr.add_lit, hc]
  rw [vs_get ss j hj] at hu
  exact hu

theorem new_one (w : World) (x : ByteArray) : ∀ ad, some (⟨w.heap.size, 0, none⟩ : Addr) = some ad → ∀ j u, (vs [x])[j]? = some u → (w.alloc (.cells #[.string x] 9)).cell? (ad.add j) = some u := by
  intro ad ha j u hu
  simp only [Option.some.injEq] at ha
  subst ha
  match j, hu with
  | 0, hu => simp [vs] at hu; subst hu; simp [Addr.add]
theorem new_two (w : World) (x y : ByteArray) : ∀ ad, some (⟨w.heap.size, 0, none⟩ : Addr) = some ad → ∀ j u, (vs [x, y])[j]? = some u → (w.alloc (.cells #[.string x, .string y] 9)).cell? (ad.add j) = some u := by
  intro ad ha j u hu
  simp only [Option.some.injEq] at ha
  subst ha
  match j, hu with
  | 0, hu => simp [vs] at hu; subst hu; simp [Addr.add]
  | 1, hu => simp [vs] at hu; subst hu; simp [Addr.add]

set_option maxRecDepth 20000 in
set_option maxHeartbeats 400000 in
theorem exec_any (dir fp th : ByteArray) (a : Option Addr) (n c : Nat) (ex : List ByteArray) (w : World) (hn : n ≤ 1048576) (hs : SRow w a n ex) (hnone : a = none → n = 0 ∧ c = 0) (hlt : ∀ b off, a = some ⟨b, off, none⟩ → 0 < n → b < w.heap.size) :
    Calls Try.prog 6 #[.string dir, .string fp, .slice a n c, .string th] w fun e w' => ∃ g cap A, Hid (A = argv dir fp ex th) ∧ e = .returned (.slice (some ⟨g, 0, none⟩) A.length cap) ∧ Row w' g A ∧ g < w'.heap.size ∧ Below w.heap.size w w' := by
  obtain ⟨i0, hi, hz0, hz1, hz2⟩ := info_parts Try.info9
  have HS := hid hs
  have HL := hid hlt
  have HN := hid hnone
  clear hs hlt hnone
  go_enter Try.func6, Try.ntmps6
  have O1 : Hid ((w.alloc (.cells #[.string ⟨#[101, 120, 101, 99]⟩, .string ⟨#[45, 45, 106, 115, 111, 110]⟩, .string ⟨#[45, 45, 99, 100]⟩, .string dir, .string ⟨#[45, 45, 111, 117, 116, 112, 117, 116, 45, 108, 97, 115, 116, 45, 109, 101, 115, 115, 97, 103, 101]⟩, .string fp] 9)).ownsRow w.heap.size 9 1 (.slice (some ⟨w.heap.size, 0, none⟩) 6 6) 6 (vs (head dir fp))) :=
    World.ownsRow_lit (base := w.heap.size) (e := 9) (size := 1) w _ 6 (Nat.le_refl _) (by decide) rfl
  have B1 := hid (Below.alloc (Below.refl w.heap.size w) (Nat.le_refl _) (.cells #[.string ⟨#[101, 120, 101, 99]⟩, .string ⟨#[45, 45, 106, 115, 111, 110]⟩, .string ⟨#[45, 45, 99, 100]⟩, .string dir, .string ⟨#[45, 45, 111, 117, 116, 112, 117, 116, 45, 108, 97, 115, 116, 45, 109, 101, 115, 115, 97, 103, 101]⟩, .string fp] 9))
  go_upto_region 2 with fail
  generalize w.alloc (.cells #[.string ⟨#[101, 120, 101, 99]⟩, .string ⟨#[45, 45, 106, 115, 111, 110]⟩, .string ⟨#[45, 45, 99, 100]⟩, .string dir, .string ⟨#[45, 45, 111, 117, 116, 112, 117, 116, 45, 108, 97, 115, 116, 45, 109, 101, 115, 115, 97, 103, 101]⟩, .string fp] 9) = W1 at *
  have S1 := hid (srow_below HS.out B1.out HL.out)
  go_wp2_with (at_builtin; refine wpList_append_any _ rfl _ _ rfl w.heap.size _ 6 (vs (head dir fp)) rfl O1.out a n c ex rfl HS.out.1 HN.out (news_of S1.out) ?b1 ?b2 ?_)
  case b1 => omega
  case b2 => exact B1.out.size
  intro v2 w2 ho2 hb2
  have O2 : Hid (w2.ownsRow w.heap.size 9 1 v2 (6 + n) (vs (head dir fp ++ ex))) := by unfold Hid; rw [vs_append]; exact ho2
  have B2 := hid (B1.out.trans hb2)
  clear ho2 hb2 O1 B1 S1
  by_cases hth : th.toList.isEmpty = true
  · have HA : Hid (head dir fp ++ ex ++ [⟨#[45]⟩] = argv dir fp ex th) := by unfold Hid argv tail; rw [if_pos hth, List.append_assoc]
    have hsz := B2.out.size
    have O3 := hid (O2.out.alloc (.cells #[.string ⟨#[45]⟩] 9))
    have hB3 : w.heap.size ≤ (w2.alloc (.cells #[.string ⟨#[45]⟩] 9)).heap.size := by simp; omega
    go_wp2_with (at_builtin; refine wpList_append_any _ rfl _ _ rfl w.heap.size _ (6 + n) (vs (head dir fp ++ ex)) rfl O3.out (some ⟨w2.heap.size, 0, none⟩) 1 1 [⟨#[45]⟩] rfl rfl (by simp) (new_one w2 _) ?b3 hB3 ?_)
    case b3 => omega
    intro v3 w3 ho3 hb3
    rw [← vs_append, HA.out] at ho3
    have hl : 6 + n + 1 = (argv dir fp ex th).length := by rw [← HA.out]; simp [head, HS.out.1]; omega
    rw [hl] at ho3
    obtain ⟨g, cap, hv, hg1, hg2⟩ := own_shape ho3 (by omega)
    rw [hv] at ho3 ⊢
    have R3 := hid (row_own ho3 rfl)
    have B3 := hid ((B2.out.alloc hsz _).trans hb3)
    clear ho3 hb3 hv O3 O2 B2 HA hl
    obtain ⟨A, hA⟩ : ∃ A, A = argv dir fp ex th := ⟨_, rfl⟩
    have HH := hid hA
    rw [← hA] at R3 ⊢
    clear hA
    go_wp2
    go_ret
    exact ⟨g, cap, A, HH, rfl, R3.out, hg2, B3.out⟩
  · have hth' : th.toList.isEmpty = false := by simpa using hth
    have HA : Hid (head dir fp ++ ex ++ [⟨#[114, 101, 115, 117, 109, 101]⟩, th] ++ [⟨#[45]⟩] = argv dir fp ex th) := by unfold Hid argv tail; rw [if_neg hth]; simp
    clear hth
    have hsz := B2.out.size
    have O3 := hid (O2.out.alloc (.cells #[.string ⟨#[114, 101, 115, 117, 109, 101]⟩, .string th] 9))
    have hB3 : w.heap.size ≤ (w2.alloc (.cells #[.string ⟨#[114, 101, 115, 117, 109, 101]⟩, .string th] 9)).heap.size := by simp; omega
    go_upto_region 4 with fail
    go_wp2_with (at_builtin; refine wpList_append_any _ rfl _ _ rfl w.heap.size _ (6 + n) (vs (head dir fp ++ ex)) rfl O3.out (some ⟨w2.heap.size, 0, none⟩) 2 2 [⟨#[114, 101, 115, 117, 109, 101]⟩, th] rfl rfl (by simp) (new_two w2 _ _) ?b4 hB3 ?_)
    case b4 => omega
    intro v3 w3 ho3 hb3
    obtain ⟨L3, hL3⟩ : ∃ L3, L3 = head dir fp ++ ex ++ [⟨#[114, 101, 115, 117, 109, 101]⟩, th] := ⟨_, rfl⟩
    have HL3 := hid hL3
    rw [← vs_append, ← hL3] at ho3
    clear hL3
    have B3 := hid ((B2.out.alloc hsz _).trans hb3)
    have hsz3 := B3.out.size
    have O4 := hid (ho3.alloc (.cells #[.string ⟨#[45]⟩] 9))
    have hB4 : w.heap.size ≤ (w3.alloc (.cells #[.string ⟨#[45]⟩] 9)).heap.size := by simp; omega
    clear ho3 hb3 O3 O2 B2 hB3
    go_wp2_with (at_builtin; refine wpList_append_any _ rfl _ _ rfl w.heap.size _ (6 + n + 2) (vs L3) rfl O4.out (some ⟨w3.heap.size, 0, none⟩) 1 1 [⟨#[45]⟩] rfl rfl (by simp) (new_one w3 _) ?b5 hB4 ?_)
    case b5 => omega
    intro v4 w4 ho4 hb4
    rw [← vs_append, HL3.out, HA.out] at ho4
    have hl : 6 + n + 2 + 1 = (argv dir fp ex th).length := by rw [← HA.out]; simp [head, HS.out.1]; omega
    rw [hl] at ho4
    obtain ⟨g, cap, hv, hg1, hg2⟩ := own_shape ho4 (by omega)
    rw [hv] at ho4 ⊢
    have R4 := hid (row_own ho4 rfl)
    have B4 := hid ((B3.out.alloc hsz3 _).trans hb4)
    clear ho4 hb4 hv O4 B3 HA hl
    obtain ⟨A, hA⟩ : ∃ A, A = argv dir fp ex th := ⟨_, rfl⟩
    have HH := hid hA
    rw [← hA] at R4 ⊢
    clear hA
    go_wp2
    go_ret
    exact ⟨g, cap, A, HH, rfl, R4.out, hg2, B4.out⟩
end Go.Proofs.Qxb6628593a
