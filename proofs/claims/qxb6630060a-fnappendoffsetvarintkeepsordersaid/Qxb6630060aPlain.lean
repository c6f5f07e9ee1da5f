/- Seat b6630060a: git's offset varint, plain: its bytes, its value, its order. No Go in sight. -/
namespace Go.Proofs.Qxb6630060a

/-- The bytes ahead of the last: each with its high bit set. Fuel f; m: what is left. -/
def groups : Nat → Nat → List Int
  | 0, _ => []
  | f + 1, m => if m = 0 then [] else groups f ((m - 1) / 128) ++ [128 + (((m - 1) % 128 : Nat) : Int)]
/-- The encoding of n. -/
def enc (n : Nat) : List Int := groups 8 (n / 128) ++ [((n % 128 : Nat) : Int)]

theorem groups_zero (f : Nat) : groups f 0 = [] := by cases f <;> simp [groups]
theorem groups_step (f m : Nat) (h : 0 < m) (acc : List Int) : groups (f + 1) m ++ acc = groups f ((m - 1) / 128) ++ (128 + (((m - 1) % 128 : Nat) : Int)) :: acc := by
  rw [groups, if_neg (by omega)]
  simp
theorem groups_length (f m : Nat) : (groups f m).length ≤ f := by
  induction f generalizing m with
  | zero => simp [groups]
  | succ f ih =>
    rw [groups]
    split
    · simp
    · have := ih ((m - 1) / 128)
      simp
      omega
theorem groups_range (f m : Nat) : ∀ c ∈ groups f m, 128 ≤ c ∧ c ≤ 255 := by
  induction f generalizing m with
  | zero => intro c hc; simp [groups] at hc
  | succ f ih =>
    intro c hc
    rw [groups] at hc
    split at hc
    · simp at hc
    · simp only [List.mem_append, List.mem_singleton] at hc
      rcases hc with hc | rfl
      · exact ih _ c hc
      · omega
theorem enc_length (n : Nat) : (enc n).length ≤ 9 := by
  have := groups_length 8 (n / 128)
  simp [enc]
  omega
theorem enc_pos (n : Nat) : 0 < (enc n).length := by simp [enc]
theorem enc_range (n : Nat) : ∀ c ∈ enc n, 0 ≤ c ∧ c ≤ 255 := by
  intro c hc
  simp only [enc, List.mem_append, List.mem_singleton] at hc
  rcases hc with hc | rfl
  · have := groups_range _ _ c hc
    omega
  · omega
theorem enc_high (n : Nat) (i : Nat) (h : i + 1 < (enc n).length) (c : Int) (hc : (enc n)[i]? = some c) : 128 ≤ c := by
  have hl : i < (groups 8 (n / 128)).length := by simp [enc] at h; omega
  rw [enc, List.getElem?_append_left hl] at hc
  exact (groups_range _ _ c (List.mem_of_getElem? hc)).1
theorem enc_last (n : Nat) (i : Nat) (h : i + 1 = (enc n).length) (c : Int) (hc : (enc n)[i]? = some c) : c < 128 := by
  have hl : i = (groups 8 (n / 128)).length := by simp [enc] at h; omega
  subst hl
  rw [enc, List.getElem?_append_right (Nat.le_refl _)] at hc
  simp at hc
  omega

/-- Reading on from the value v. -/
def decF (v : Int) : List Int → Int
  | [] => v
  | c :: cs => decF ((v + 1) * 128 + c % 128) cs
theorem decF_append (v : Int) (a b : List Int) : decF v (a ++ b) = decF (decF v a) b := by
  induction a generalizing v with
  | nil => rfl
  | cons c cs ih => exact ih _
theorem decF_ge (v : Int) (l : List Int) (h : 0 ≤ v) : v ≤ decF v l := by
  induction l generalizing v with
  | nil => exact Int.le_refl _
  | cons c cs ih =>
    have := ih ((v + 1) * 128 + c % 128) (by omega)
    rw [decF]
    omega
theorem pow_succ128 (f : Nat) : 128 ^ (f + 1) = 128 * 128 ^ f := by rw [Nat.pow_succ]; omega
/-- The groups read back: where m is not nought they are c :: cs, and reading cs on from c's seven bits gives m - 1. -/
theorem groups_dec (f m : Nat) (h : m < 128 ^ f) (hm : 0 < m) : ∃ c cs, groups f m = c :: cs ∧ decF (c % 128) cs = ((m - 1 : Nat) : Int) := by
  induction f generalizing m with
  | zero => simp at h; omega
  | succ f ih =>
    rw [pow_succ128] at h
    rw [groups, if_neg (by omega)]
    by_cases h0 : (m - 1) / 128 = 0
    · rw [h0, groups_zero]
      refine ⟨_, [], rfl, ?_⟩
      rw [decF]
      omega
    · obtain ⟨c, cs, e1, e2⟩ := ih ((m - 1) / 128) (by omega) (by omega)
      rw [e1]
      refine ⟨c, cs ++ [128 + (((m - 1) % 128 : Nat) : Int)], rfl, ?_⟩
      rw [decF_append, e2, decF, decF]
      omega
theorem enc_dec (n : Nat) (h : n < 2 ^ 63) : ∃ c cs, enc n = c :: cs ∧ decF (c % 128) cs = (n : Int) := by
  unfold enc
  by_cases h0 : n / 128 = 0
  · rw [h0, groups_zero]
    refine ⟨_, [], rfl, ?_⟩
    rw [decF]
    omega
  · obtain ⟨c, cs, e1, e2⟩ := groups_dec 8 (n / 128) (by omega) (by omega)
    rw [e1]
    refine ⟨c, cs ++ [((n % 128 : Nat) : Int)], rfl, ?_⟩
    rw [decF_append, e2, decF, decF]
    omega

/-! ### order -/
def lex : List Int → List Int → Int
  | a :: x, b :: y => if a < b then -1 else if b < a then 1 else lex x y
  | _, _ => 0
def cmp (a b : Int) : Int := if a < b then -1 else if b < a then 1 else 0
def sl (x y : List Int) : Int := if x.length < y.length then -1 else if y.length < x.length then 1 else lex x y

theorem lex_snoc (x y : List Int) (a b : Int) (h : x.length = y.length) : lex (x ++ [a]) (y ++ [b]) = if lex x y = 0 then cmp a b else lex x y := by
  induction x generalizing y with
  | nil =>
    cases y with
    | nil => simp [lex, cmp]
    | cons d y => simp at h
  | cons c x ih =>
    cases y with
    | nil => simp at h
    | cons d y =>
      have := ih y (by simpa using h)
      simp only [List.cons_append, lex]
      by_cases h1 : c < d
      · simp [h1]
      · by_cases h2 : d < c
        · simp [h1, h2]
        · simp [h1, h2, this]
theorem sl_snoc (x y : List Int) (a b : Int) : sl (x ++ [a]) (y ++ [b]) = if sl x y = 0 then cmp a b else sl x y := by
  unfold sl
  simp only [List.length_append, List.length_singleton, Nat.add_lt_add_iff_right]
  by_cases h1 : x.length < y.length
  · simp [h1]
  · by_cases h2 : y.length < x.length
    · simp [h1, h2]
    · simp only [h1, h2, if_false]
      exact lex_snoc x y a b (by omega)
theorem cmp_comb (p q r s a b : Int) (h1 : r - s < 128) (h2 : s - r < 128) (h3 : a - b = (p - q) * 128 + (r - s)) : (if cmp p q = 0 then cmp r s else cmp p q) = cmp a b := by
  unfold cmp
  by_cases hp : p < q
  · rw [if_pos hp, if_neg (by decide), if_pos (by omega)]
  · by_cases hq : q < p
    · rw [if_neg hp, if_pos hq, if_neg (by decide), if_neg (by omega), if_pos (by omega)]
    · rw [if_neg hp, if_neg hq, if_pos rfl]
      by_cases hr : r < s
      · rw [if_pos hr, if_pos (by omega)]
      · by_cases hs : s < r
        · rw [if_neg hr, if_pos hs, if_neg (by omega), if_pos (by omega)]
        · rw [if_neg hr, if_neg hs, if_neg (by omega), if_neg (by omega)]
theorem groups_pos (f m : Nat) (h : 0 < m) : 0 < (groups (f + 1) m).length := by
  rw [groups, if_neg (by omega)]
  simp
theorem groups_sl (f m n : Nat) (hm : m < 128 ^ f) (hn : n < 128 ^ f) : sl (groups f m) (groups f n) = cmp m n := by
  induction f generalizing m n with
  | zero => simp at hm hn; subst hm; subst hn; simp [groups, sl, lex, cmp]
  | succ f ih =>
    rw [pow_succ128] at hm hn
    by_cases h1 : m = 0
    · subst h1
      by_cases h2 : n = 0
      · subst h2
        simp [groups_zero, sl, lex, cmp]
      · have := groups_pos f n (by omega)
        rw [groups_zero, sl, cmp, if_pos (by simpa using this), if_pos (by omega)]
    · by_cases h2 : n = 0
      · subst h2
        have := groups_pos f m (by omega)
        rw [groups_zero, sl, cmp, if_neg (by simp), if_pos (by simpa using this), if_neg (by omega), if_pos (by omega)]
      · rw [groups, groups, if_neg h1, if_neg h2, sl_snoc, ih _ _ (by omega) (by omega)]
        exact cmp_comb _ _ _ _ _ _ (by omega) (by omega) (by omega)
theorem enc_sl (m n : Nat) (hm : m < 2 ^ 63) (hn : n < 2 ^ 63) : sl (enc m) (enc n) = cmp m n := by
  rw [enc, enc, sl_snoc, groups_sl 8 _ _ (by omega) (by omega)]
  exact cmp_comb _ _ _ _ _ _ (by omega) (by omega) (by omega)

end Go.Proofs.Qxb6630060a
