/-
  PLAIN MATHEMATICS of the offset encoding: no Go here.
-/
namespace Go.Proofs.Qxb6628020a.Plain

/-- The leading digits of a number, most significant first, each with its high bit; 'f' bounds their count. -/
def digs : Nat → Nat → List Nat
  | 0, _ => []
  | f + 1, d => if d = 0 then [] else digs f ((d - 1) / 128) ++ [128 + (d - 1) % 128]

/-- The whole encoding. -/
def enc (D : Nat) : List Nat := digs 8 (D / 128) ++ [D % 128]

theorem digs_zero (f : Nat) : digs f 0 = [] := by cases f <;> simp [digs]
theorem digs_succ (f d : Nat) (h : 0 < d) : digs (f + 1) d = digs f ((d - 1) / 128) ++ [128 + (d - 1) % 128] := by
  rw [digs, if_neg (by omega)]

theorem digs_len (f d : Nat) : (digs f d).length ≤ f := by
  induction f generalizing d with
  | zero => simp [digs]
  | succ f ih =>
    by_cases h : d = 0
    · subst h; simp [digs_zero]
    · rw [digs_succ f d (by omega)]; have := ih ((d - 1) / 128); simp; omega

theorem enc_len (D : Nat) : 1 ≤ (enc D).length ∧ (enc D).length ≤ 9 := by
  have := digs_len 8 (D / 128)
  simp [enc]; omega

/-- Every leading digit lies in 128 .. 255. -/
theorem digs_range (f d : Nat) : ∀ x ∈ digs f d, 128 ≤ x ∧ x < 256 := by
  induction f generalizing d with
  | zero => simp [digs]
  | succ f ih =>
    by_cases h : d = 0
    · subst h; simp [digs_zero]
    · rw [digs_succ f d (by omega)]
      intro x hx
      rcases List.mem_append.1 hx with hx | hx
      · exact ih _ x hx
      · simp at hx; omega

theorem enc_range (D : Nat) : ∀ x ∈ enc D, x < 256 := by
  intro x hx
  rcases List.mem_append.1 hx with hx | hx
  · exact (digs_range _ _ x hx).2
  · simp at hx; omega

/-! ### shortlex order -/
/-- What the Go comparison answers: -1, 0, 1. -/
def cmpN (a b : Nat) : Int := if a < b then -1 else if b < a then 1 else 0
def lex : List Nat → List Nat → Int
  | x :: xs, y :: ys => if x < y then -1 else if y < x then 1 else lex xs ys
  | _, _ => 0
def slex (a b : List Nat) : Int := if a.length < b.length then -1 else if b.length < a.length then 1 else lex a b

theorem lex_snoc (a b : List Nat) (x y : Nat) (h : a.length = b.length) : lex (a ++ [x]) (b ++ [y]) = if lex a b = 0 then cmpN x y else lex a b := by
  induction a generalizing b with
  | nil =>
    cases b with
    | nil => simp [lex, cmpN]
    | cons _ _ => simp at h
  | cons p a ih =>
    cases b with
    | nil => simp at h
    | cons q b =>
      simp only [List.cons_append, lex]
      by_cases h1 : p < q
      · simp [h1]
      · by_cases h2 : q < p
        · simp [h1, h2]
        · simp only [h1, h2, if_false]
          exact ih b (by simpa using h)

theorem slex_snoc (a b : List Nat) (x y : Nat) : slex (a ++ [x]) (b ++ [y]) = if slex a b = 0 then cmpN x y else slex a b := by
  unfold slex
  simp only [List.length_append, List.length_singleton]
  by_cases h1 : a.length < b.length
  · have h1' : a.length + 1 < b.length + 1 := by omega
    simp [h1]
  · by_cases h2 : b.length < a.length
    · simp [h1, h2]
    · have e : a.length = b.length := by omega
      simp only [e, Nat.lt_irrefl, if_false]
      exact lex_snoc a b x y e

theorem digs_slex (f d1 d2 : Nat) (h1 : d1 < 128 ^ f) (h2 : d2 < 128 ^ f) : slex (digs f d1) (digs f d2) = cmpN d1 d2 := by
  induction f generalizing d1 d2 with
  | zero =>
    have : d1 = 0 := by simpa using h1
    have : d2 = 0 := by simpa using h2
    subst d1 d2; simp [digs, slex, lex, cmpN]
  | succ f ih =>
    by_cases e1 : d1 = 0
    · subst e1
      by_cases e2 : d2 = 0
      · subst e2; simp [digs_zero, slex, lex, cmpN]
      · rw [digs_zero, digs_succ f d2 (by omega)]
        simp [slex, cmpN]; omega
    · by_cases e2 : d2 = 0
      · subst e2
        rw [digs_zero, digs_succ f d1 (by omega)]
        simp [slex, cmpN]; omega
      · rw [digs_succ f d1 (by omega), digs_succ f d2 (by omega), slex_snoc]
        rw [Nat.pow_succ] at h1 h2
        rw [ih _ _ (by omega) (by omega)]
        unfold cmpN
        split <;> split <;> split <;> omega

theorem enc_slex (d1 d2 : Nat) (h1 : d1 < 128 ^ 9) (h2 : d2 < 128 ^ 9) : slex (enc d1) (enc d2) = cmpN d1 d2 := by
  unfold enc
  rw [slex_snoc, digs_slex 8 _ _ (by omega) (by omega)]
  unfold cmpN
  split <;> split <;> split <;> omega

/-! ### the closed-form length -/
/-- base 0 = 0, base (k+1) = (base k + 1) * 128. -/
def base : Nat → Nat
  | 0 => 0
  | k + 1 => (base k + 1) * 128

theorem digs_len_iff (f d j : Nat) (hj : j < f) : (digs f d).length ≤ j ↔ d < base j + 1 := by
  induction f generalizing d j with
  | zero => omega
  | succ f ih =>
    by_cases h : d = 0
    · subst h; simp [digs_zero]
    · rw [digs_succ f d (by omega)]
      cases j with
      | zero => simp [base]; omega
      | succ j =>
        have := ih ((d - 1) / 128) j (by omega)
        simp only [List.length_append, List.length_singleton, Nat.add_le_add_iff_right, this, base]
        omega

/-- The encoding has at most k digits (1 ≤ k ≤ 8) just if D lies below base k. -/
theorem enc_len_iff (D k : Nat) (hk : k < 8) : (enc D).length ≤ k + 1 ↔ D < base (k + 1) := by
  have := digs_len_iff 8 (D / 128) k hk
  unfold enc
  simp only [List.length_append, List.length_singleton, Nat.add_le_add_iff_right, this, base]
  omega

theorem base_mono (i j : Nat) (h : i ≤ j) : base i ≤ base j := by
  induction j with
  | zero => have : i = 0 := by omega
            subst this; exact Nat.le_refl _
  | succ j ih =>
    by_cases e : i = j + 1
    · subst e; exact Nat.le_refl _
    · have := ih (by omega); simp only [base]; omega
theorem base_nine : base 9 = 9295997013522923648 := by decide
theorem base_le (j : Nat) (h : j ≤ 9) : base j ≤ 9295997013522923648 := by rw [← base_nine]; exact base_mono j 9 h

theorem enc_len_eq (D j : Nat) (hj : j ≤ 8) (h1 : base j ≤ D) (h2 : D < base (j + 1)) : (enc D).length = j + 1 := by
  have hl := enc_len D
  have a1 : (enc D).length ≤ j + 1 := by
    by_cases e : j = 8
    · omega
    · exact (enc_len_iff D j (by omega)).2 h2
  have a2 : j + 1 ≤ (enc D).length := by
    cases j with
    | zero => omega
    | succ i =>
      have := (enc_len_iff D i (by omega)).1
      omega
  omega

/-! ### decoding -/
/-- The pack reader's rule on what is left of an encoding. -/
def decFrom : Nat → List Nat → Nat
  | off, [] => off
  | off, x :: xs => decFrom ((off + 1) * 128 + x % 128) xs
theorem decFrom_snoc (off : Nat) (l : List Nat) (x : Nat) : decFrom off (l ++ [x]) = (decFrom off l + 1) * 128 + x % 128 := by
  induction l generalizing off with
  | nil => simp [decFrom]
  | cons y l ih => simp [decFrom, ih]
def dec : List Nat → Nat
  | [] => 0
  | x :: xs => decFrom (x % 128) xs
theorem dec_snoc (l : List Nat) (x : Nat) (h : l ≠ []) : dec (l ++ [x]) = (dec l + 1) * 128 + x % 128 := by
  cases l with
  | nil => exact absurd rfl h
  | cons y l => exact decFrom_snoc _ l x
theorem digs_dec (f d : Nat) (h0 : 0 < d) (h : d < 128 ^ f) : dec (digs f d) + 1 = d := by
  induction f generalizing d with
  | zero => simp at h; omega
  | succ f ih =>
    rw [digs_succ f d h0]
    rw [Nat.pow_succ] at h
    by_cases hz : (d - 1) / 128 = 0
    · rw [hz, digs_zero]; simp [dec, decFrom]; omega
    · have hne : digs f ((d - 1) / 128) ≠ [] := by
        intro e
        have h1 := ih ((d - 1) / 128) (by omega) (by omega)
        cases f with
        | zero => simp at h; omega
        | succ f => rw [digs_succ f _ (by omega)] at e; simp at e
      rw [dec_snoc _ _ hne, ih _ (by omega) (by omega)]
      omega
theorem digs_ne (f d : Nat) (h0 : 0 < d) (h : d < 128 ^ f) : digs f d ≠ [] := by
  cases f with
  | zero => simp at h; omega
  | succ f => rw [digs_succ f _ (by omega)]; simp
theorem enc_dec (D : Nat) (h : D < 128 ^ 9) : dec (enc D) = D := by
  unfold enc
  by_cases hz : D / 128 = 0
  · rw [hz, digs_zero]; simp [dec, decFrom]; omega
  · rw [dec_snoc _ _ (digs_ne 8 _ (by omega) (by omega)), digs_dec 8 _ (by omega) (by omega)]
    omega

/-! ### the carry successor -/
/-- A digit that carries keeps its high bit alone. -/
def clr (y : Nat) : Nat := y / 128 * 128

theorem snoc_cases (l : List Nat) : l = [] ∨ ∃ m y, l = m ++ [y] := by
  rcases List.eq_nil_or_concat l with h | ⟨m, y, h⟩
  · exact Or.inl h
  · exact Or.inr ⟨m, y, by simpa using h⟩

theorem digs_succ_at (f d : Nat) (p s : List Nat) (x : Nat) (e : digs f d = p ++ [x] ++ s) (hx : x % 128 ≠ 127) (hs : ∀ y ∈ s, y % 128 = 127) :
    digs f (d + 1) = p ++ [x + 1] ++ s.map clr := by
  induction f generalizing d p s x with
  | zero => simp [digs] at e
  | succ f ih =>
    by_cases h0 : d = 0
    · subst h0; simp [digs_zero] at e
    · have e' := e
      rw [digs_succ f d (by omega)] at e
      rw [digs_succ f (d + 1) (by omega), Nat.add_sub_cancel]
      rcases snoc_cases s with rfl | ⟨m, y, rfl⟩
      · simp only [List.append_nil] at e
        have h := List.append_inj' e rfl
        have h2 : 128 + (d - 1) % 128 = x := by simpa using h.2
        have e1 : d / 128 = (d - 1) / 128 := by omega
        have e2 : d % 128 = (d - 1) % 128 + 1 := by omega
        rw [e1, e2, h.1]
        simp; omega
      · rw [← List.append_assoc] at e
        have h := List.append_inj' e rfl
        have h2 : 128 + (d - 1) % 128 = y := by simpa using h.2
        have hy : y % 128 = 127 := hs y (by simp)
        have e1 : d / 128 = (d - 1) / 128 + 1 := by omega
        have e2 : d % 128 = 0 := by omega
        rw [e1, e2, ih _ p m x h.1 hx (fun z hz => hs z (by simp [hz]))]
        have e3 : clr y = 128 := by unfold clr; omega
        simp [e3]

theorem digs_succ_all (f d : Nat) (h : d + 1 < 128 ^ f) (hs : ∀ y ∈ digs f d, y % 128 = 127) : digs f (d + 1) = List.replicate ((digs f d).length + 1) 128 := by
  induction f generalizing d with
  | zero => simp at h
  | succ f ih =>
    rw [digs_succ f (d + 1) (by omega), Nat.add_sub_cancel]
    by_cases h0 : d = 0
    · subst h0; simp [digs_zero]
    · rw [digs_succ f d (by omega)] at hs ⊢
      have hl : (128 + (d - 1) % 128) % 128 = 127 := hs _ (by simp)
      have e1 : d / 128 = (d - 1) / 128 + 1 := by omega
      have e2 : d % 128 = 0 := by omega
      rw [Nat.pow_succ] at h
      rw [e1, e2, ih _ (by omega) (fun y hy => hs y (by simp [hy]))]
      simp [List.replicate_succ']

theorem enc_succ_at' (D : Nat) (p s : List Nat) (x : Nat) (e : enc D = p ++ [x] ++ s) (hx : x % 128 ≠ 127) (hs : ∀ y ∈ s, y % 128 = 127) :
    enc (D + 1) = p ++ [x + 1] ++ s.map clr := by
  unfold enc at e ⊢
  rcases snoc_cases s with rfl | ⟨m, y, rfl⟩
  · simp only [List.append_nil] at e
    have h := List.append_inj' e rfl
    have h2 : D % 128 = x := by simpa using h.2
    have e1 : (D + 1) / 128 = D / 128 := by omega
    have e2 : (D + 1) % 128 = D % 128 + 1 := by omega
    rw [e1, e2, h.1, h2]
    simp
  · rw [← List.append_assoc] at e
    have h := List.append_inj' e rfl
    have h2 : D % 128 = y := by simpa using h.2
    have hy : y % 128 = 127 := hs y (by simp)
    have e1 : (D + 1) / 128 = D / 128 + 1 := by omega
    have e2 : (D + 1) % 128 = 0 := by omega
    rw [e1, e2, digs_succ_at 8 _ p m x h.1 hx (fun z hz => hs z (by simp [hz]))]
    have e3 : clr y = 0 := by unfold clr; omega
    simp [e3]

theorem enc_succ_at (D i : Nat) (hi : i < (enc D).length) (hx : (enc D).getD i 0 % 128 ≠ 127) (hs : ∀ y ∈ (enc D).drop (i + 1), y % 128 = 127) :
    enc (D + 1) = (enc D).take i ++ [(enc D).getD i 0 + 1] ++ ((enc D).drop (i + 1)).map clr := by
  refine enc_succ_at' D _ _ _ ?_ hx hs
  rw [List.append_assoc]
  have hg : (enc D).getD i 0 = (enc D)[i] := by simp [List.getD, hi]
  rw [hg]
  have := List.drop_eq_getElem_cons hi
  rw [List.singleton_append, ← this, List.take_append_drop]

theorem enc_succ_all (D : Nat) (h : D + 1 < 128 ^ 9) (hs : ∀ y ∈ enc D, y % 128 = 127) : enc (D + 1) = List.replicate (enc D).length 128 ++ [0] := by
  unfold enc at hs ⊢
  have hl : (D % 128) % 128 = 127 := hs _ (by simp)
  have e1 : (D + 1) / 128 = D / 128 + 1 := by omega
  have e2 : (D + 1) % 128 = 0 := by omega
  rw [e1, e2, digs_succ_all 8 _ (by omega) (fun y hy => hs y (by simp [hy]))]
  simp

/-! ### well-formedness -/
theorem enc_wf_init (D i : Nat) (hi : i + 1 < (enc D).length) : 128 ≤ (enc D).getD i 0 := by
  unfold enc at hi ⊢
  have hi' : i < (digs 8 (D / 128)).length := by simp at hi; omega
  have e : (digs 8 (D / 128) ++ [D % 128]).getD i 0 = (digs 8 (D / 128))[i] := by simp [List.getD, hi', List.getElem?_append_left hi']
  rw [e]
  exact (digs_range _ _ _ (List.getElem_mem hi')).1
theorem enc_wf_last (D i : Nat) (hi : i + 1 = (enc D).length) : (enc D).getD i 0 < 128 := by
  unfold enc at hi ⊢
  have hi' : i = (digs 8 (D / 128)).length := by simp at hi; omega
  subst hi'
  simp [List.getD]
  omega
theorem enc_getD (D i : Nat) : (enc D).getD i 0 < 256 := by
  by_cases h : i < (enc D).length
  · simp only [List.getD, List.getElem?_eq_getElem h, Option.getD_some]; exact enc_range D _ (List.getElem_mem h)
  · simp [List.getD, h]

end Go.Proofs.Qxb6628020a.Plain
