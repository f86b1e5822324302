/-
  PLAIN MATHEMATICS of varints and links: no Go here.
-/
namespace Go.Proofs.Qxb6628550a.Plain

/-- The varint of x, least digit first; 'f' bounds the count of digits. -/
def uvF : Nat → Nat → List Nat
  | 0, x => [x]
  | f + 1, x => if x < 128 then [x] else (128 + x % 128) :: uvF f (x / 128)
def uv (x : Nat) : List Nat := uvF 9 x

theorem uvF_small (f x : Nat) (h : x < 128) : uvF f x = [x] := by cases f <;> simp [uvF, h]
theorem uvF_big (f x : Nat) (h : 128 ≤ x) : uvF (f + 1) x = (128 + x % 128) :: uvF f (x / 128) := by
  rw [uvF, if_neg (by omega)]
theorem uvF_len (f x : Nat) : 1 ≤ (uvF f x).length ∧ (uvF f x).length ≤ f + 1 := by
  induction f generalizing x with
  | zero => simp [uvF]
  | succ f ih =>
    by_cases h : x < 128
    · rw [uvF_small _ _ h]; simp
    · rw [uvF_big f x (by omega)]; have := ih (x / 128); simp; omega
theorem uv_len (x : Nat) : 1 ≤ (uv x).length ∧ (uv x).length ≤ 10 := uvF_len 9 x

theorem uvF_range (f x : Nat) (h : x < 128 ^ f * 256) : ∀ y ∈ uvF f x, y < 256 := by
  induction f generalizing x with
  | zero => intro y hy; simp [uvF] at hy; simp at h; omega
  | succ f ih =>
    by_cases hx : x < 128
    · rw [uvF_small _ _ hx]; intro y hy; simp at hy; omega
    · rw [uvF_big f x (by omega)]
      intro y hy
      rw [Nat.pow_succ] at h
      rcases List.mem_cons.1 hy with rfl | hy
      · omega
      · exact ih (x / 128) (by omega) y hy
theorem uv_range (x : Nat) (h : x < 18446744073709551616) : ∀ y ∈ uv x, y < 256 := uvF_range 9 x (by omega)

/-- The distance back from b to p, modulo 2^64. -/
def gap (b p : Nat) : Nat := (b + 18446744073709551616 - p) % 18446744073709551616
theorem gap_lt (b p : Nat) : gap b p < 18446744073709551616 := Nat.mod_lt _ (by omega)

def gaps : Nat → List Nat → List Nat
  | _, [] => []
  | b, p :: ps => uv (gap b p) ++ gaps p ps
/-- The last offset, or b where there is none. -/
def lastOr : Nat → List Nat → Nat
  | b, [] => b
  | _, p :: ps => lastOr p ps
theorem gaps_append (b : Nat) (l m : List Nat) : gaps b (l ++ m) = gaps b l ++ gaps (lastOr b l) m := by
  induction l generalizing b with
  | nil => rfl
  | cons p l ih => simp [gaps, lastOr, ih]
theorem gaps_len (b : Nat) (l : List Nat) : (gaps b l).length ≤ 10 * l.length := by
  induction l generalizing b with
  | nil => simp [gaps]
  | cons p l ih => have := ih p; have := (uv_len (gap b p)).2; simp [gaps]; omega
theorem gaps_range (b : Nat) (l : List Nat) : ∀ y ∈ gaps b l, y < 256 := by
  induction l generalizing b with
  | nil => simp [gaps]
  | cons p l ih =>
    intro y hy
    rcases List.mem_append.1 hy with hy | hy
    · exact uv_range _ (gap_lt b p) y hy
    · exact ih p y hy
theorem lastOr_snoc (b : Nat) (l : List Nat) (p : Nat) : lastOr b (l ++ [p]) = p := by
  induction l generalizing b with
  | nil => rfl
  | cons q l ih => exact ih q
theorem take_snoc (l : List Nat) (k : Nat) (h : k < l.length) : l.take (k + 1) = l.take k ++ [l.getD k 0] := by
  rw [List.take_succ_eq_append_getElem h]; simp [List.getD, h]
theorem lastOr_take (b : Nat) (l : List Nat) (k : Nat) (h : k < l.length) : lastOr b (l.take (k + 1)) = l.getD k 0 := by
  rw [take_snoc l k h, lastOr_snoc]
theorem gaps_take (b : Nat) (l : List Nat) (k : Nat) (h : k < l.length) : gaps b (l.take (k + 1)) = gaps b (l.take k) ++ uv (gap (lastOr b (l.take k)) (l.getD k 0)) := by
  rw [take_snoc l k h, gaps_append]; simp [gaps]
theorem gaps_drop (b : Nat) (l : List Nat) (k : Nat) (h : k < l.length) : gaps b (l.drop k) = uv (gap b (l.getD k 0)) ++ gaps (l.getD k 0) (l.drop (k + 1)) := by
  rw [List.drop_eq_getElem_cons h]; simp [gaps, List.getD, h]

def hdr (n : Nat) (more : Bool) : Nat := 2 * n + (if more then 1 else 0)
theorem hdr_lt (n : Nat) (more : Bool) (h : n ≤ 1048576) : hdr n more ≤ 2097153 := by unfold hdr; cases more <;> simp <;> omega
/-- What AppendLinks writes. -/
def links (b : Nat) (l : List Nat) (more : Bool) : List Nat := uv (hdr l.length more) ++ gaps b l
theorem links_len (b : Nat) (l : List Nat) (more : Bool) : (links b l more).length ≤ 10 * (l.length + 1) := by
  have := gaps_len b l; have := (uv_len (hdr l.length more)).2; simp [links]; omega
theorem links_range (b : Nat) (l : List Nat) (more : Bool) (h : l.length ≤ 1048576) : ∀ y ∈ links b l more, y < 256 := by
  intro y hy
  rcases List.mem_append.1 hy with hy | hy
  · exact uv_range _ (by have := hdr_lt l.length more h; omega) y hy
  · exact gaps_range b l y hy

/-- Adding a gap back gives the offset it was taken to. -/
theorem gap_back (b p : Nat) (hb : b < 18446744073709551616) (hp : p < 18446744073709551616) : (b + 18446744073709551616 - gap b p) % 18446744073709551616 = p := by
  unfold gap; omega

/-! ### splitting -/
theorem split_gaps (b : Nat) (l : List Nat) (k : Nat) : gaps b l = gaps b (l.take k) ++ gaps (lastOr b (l.take k)) (l.drop k) := by
  rw [← gaps_append, List.take_append_drop]

end Go.Proofs.Qxb6628550a.Plain
