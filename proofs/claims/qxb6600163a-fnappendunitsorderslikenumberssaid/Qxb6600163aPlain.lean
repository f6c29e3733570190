/-
  THE PLAIN LAWS OF THE TEXT THAT AppendUnits WRITES: no Go in sight.
-/
namespace Go.Proofs.Qxb6600163a
namespace Txt

/-- The k-th digit of m, from the right, as a byte. -/
def dg (m k : Nat) : UInt8 := UInt8.ofNat (48 + m / 10 ^ k % 10)
/-- What stands to the right behind k rounds: k digits, and the point behind p of them (where p is not 0 and more than p are written). -/
def suf (p m : Nat) : Nat → List UInt8
  | 0 => []
  | k + 1 => dg m k :: (if k = p ∧ 0 < k then 46 :: suf p m k else suf p m k)
/-- K is the number of rounds: p + 1 at least; no digit is left; none is written that need not be. -/
def Fin (p m K : Nat) : Prop := p + 1 ≤ K ∧ m < 10 ^ K ∧ (K = p + 1 ∨ 10 ^ (K - 1) ≤ m)
def sgn (neg : Bool) : List UInt8 := if neg then [45] else []

theorem dg_toNat (m k : Nat) : (dg m k).toNat = 48 + m / 10 ^ k % 10 := by
  unfold dg
  rw [UInt8.toNat_ofNat']
  have : m / 10 ^ k % 10 < 10 := Nat.mod_lt _ (by omega)
  omega
theorem dg_range (m k : Nat) : 48 ≤ (dg m k).toNat ∧ (dg m k).toNat ≤ 57 := by
  rw [dg_toNat]
  have : m / 10 ^ k % 10 < 10 := Nat.mod_lt _ (by omega)
  omega

theorem suf_point (p m k : Nat) (h1 : k = p) (h2 : 0 < k) : suf p m (k + 1) = dg m k :: 46 :: suf p m k := by simp [suf, h1, h1 ▸ h2]
theorem suf_plain (p m k : Nat) (h : ¬ (k = p ∧ 0 < k)) : suf p m (k + 1) = dg m k :: suf p m k := by
  simp only [suf]; rw [if_neg h]

theorem suf_length (p m : Nat) : ∀ k, (suf p m k).length = k + if p < k ∧ 0 < p then 1 else 0
  | 0 => by simp [suf]
  | k + 1 => by
    have ih := suf_length p m k
    by_cases h : k = p ∧ 0 < k
    · rw [suf_point p m k h.1 h.2]
      simp only [List.length_cons, ih]
      rw [if_neg (by omega), if_pos (by omega)]
    · rw [suf_plain p m k h]
      simp only [List.length_cons, ih]
      by_cases h2 : p < k ∧ 0 < p
      · rw [if_pos h2, if_pos (by omega)]
      · rw [if_neg h2, if_neg (by omega)]

/-- The whole part: the j digits from place p on. -/
def wh (p m : Nat) : Nat → List UInt8
  | 0 => []
  | j + 1 => dg m (p + j) :: wh p m j
theorem wh_length (p m : Nat) : ∀ j, (wh p m j).length = j
  | 0 => rfl
  | j + 1 => by simp [wh, wh_length p m j]
theorem suf_zero (m : Nat) : ∀ j, suf 0 m j = wh 0 m j
  | 0 => rfl
  | j + 1 => by
    rw [suf_plain 0 m j (by omega), suf_zero m j]
    simp [wh]
theorem suf_split (p m : Nat) (hp : 0 < p) : ∀ j, suf p m (p + (j + 1)) = wh p m (j + 1) ++ 46 :: suf p m p
  | 0 => by
    rw [show p + (0 + 1) = p + 1 by omega, suf_point p m p rfl hp]
    simp [wh]
  | j + 1 => by
    rw [show p + (j + 1 + 1) = (p + (j + 1)) + 1 by omega, suf_plain p m _ (by omega), suf_split p m hp j]
    simp [wh]

theorem wh_digits (p m : Nat) : ∀ j b, b ∈ wh p m j → 48 ≤ b.toNat ∧ b.toNat ≤ 57
  | 0, b, h => by simp [wh] at h
  | j + 1, b, h => by
    simp only [wh, List.mem_cons] at h
    rcases h with rfl | h
    · exact dg_range _ _
    · exact wh_digits p m j b h
theorem suf_digits (p m : Nat) : ∀ k, k ≤ p → ∀ b, b ∈ suf p m k → 48 ≤ b.toNat ∧ b.toNat ≤ 57
  | 0, _, b, h => by simp [suf] at h
  | k + 1, hk, b, h => by
    rw [suf_plain p m k (by omega)] at h
    simp only [List.mem_cons] at h
    rcases h with rfl | h
    · exact dg_range _ _
    · exact suf_digits p m k (by omega) b h

/-- The first byte is the highest digit. -/
theorem suf_head (p m K : Nat) (h : 0 < K) : ∃ l, suf p m K = dg m (K - 1) :: l := by
  obtain ⟨k, rfl⟩ : ∃ k, K = k + 1 := ⟨K - 1, by omega⟩
  exact ⟨_, rfl⟩
theorem wh_head (p m j : Nat) (h : 0 < j) : ∃ l, wh p m j = dg m (p + j - 1) :: l := by
  obtain ⟨k, rfl⟩ : ∃ k, j = k + 1 := ⟨j - 1, by omega⟩
  exact ⟨_, rfl⟩

/-- The highest digit is not 0 where it need not have been written. -/
theorem top_pos {p m K : Nat} (h : Fin p m K) (h1 : p + 1 < K) : 48 < (dg m (K - 1)).toNat := by
  obtain ⟨_, h2, h3⟩ := h
  have h3 : 10 ^ (K - 1) ≤ m := by rcases h3 with h3 | h3; omega; exact h3
  rw [dg_toNat]
  have e : 10 ^ K = 10 ^ (K - 1) * 10 := by rw [← Nat.pow_succ]; congr 1; omega
  rw [e] at h2
  have hp : 0 < 10 ^ (K - 1) := Nat.pow_pos (by omega)
  have a : 1 ≤ m / 10 ^ (K - 1) := (Nat.le_div_iff_mul_le hp).2 (by omega)
  have b : m / 10 ^ (K - 1) < 10 := (Nat.div_lt_iff_lt_mul hp).2 (by rw [Nat.mul_comm]; exact h2)
  rw [Nat.mod_eq_of_lt b]
  omega
/-- At most nineteen digits stand ahead of the point. -/
theorem few {p m K : Nat} (h : Fin p m K) (hm : m ≤ 9223372036854775808) : K - p ≤ 19 := by
  obtain ⟨h1, _, h3⟩ := h
  rcases h3 with h3 | h3
  · omega
  · have : K - 1 < 19 := by
      apply (Nat.pow_lt_pow_iff_right (a := 10) (by omega)).1
      have : (10 : Nat) ^ 19 = 10000000000000000000 := by decide
      omega
    omega

/-! ### The order -/
/-- Byte by byte. -/
def lex : List UInt8 → List UInt8 → Int
  | x :: a, y :: b => if x.toNat < y.toNat then -1 else if y.toNat < x.toNat then 1 else lex a b
  | _, _ => 0
def cmpN (a b : Nat) : Int := if a < b then -1 else if b < a then 1 else 0
/-- By length, then byte by byte. -/
def cmpL (a b : List UInt8) : Int := if a.length < b.length then -1 else if b.length < a.length then 1 else lex a b

theorem lex_suf (p m n : Nat) : ∀ k, lex (suf p m k) (suf p n k) = cmpN (m % 10 ^ k) (n % 10 ^ k)
  | 0 => by simp [suf, lex, cmpN, Nat.mod_one]
  | k + 1 => by
    have ih := lex_suf p m n k
    have hp : 0 < 10 ^ k := Nat.pow_pos (by omega)
    have a1 := Nat.mod_lt m hp
    have a2 := Nat.mod_lt n hp
    have e1 : m % 10 ^ (k + 1) = m % 10 ^ k + 10 ^ k * (m / 10 ^ k % 10) := Nat.mod_pow_succ
    have e2 : n % 10 ^ (k + 1) = n % 10 ^ k + 10 ^ k * (n / 10 ^ k % 10) := Nat.mod_pow_succ
    have hl : lex (suf p m (k + 1)) (suf p n (k + 1)) = if (dg m k).toNat < (dg n k).toNat then -1 else if (dg n k).toNat < (dg m k).toNat then 1 else lex (suf p m k) (suf p n k) := by
      by_cases h : k = p ∧ 0 < k
      · rw [suf_point p m k h.1 h.2, suf_point p n k h.1 h.2]
        simp [lex]
      · rw [suf_plain p m k h, suf_plain p n k h]
        simp only [lex]
    rw [hl, ih, e1, e2, dg_toNat, dg_toNat]
    generalize m / 10 ^ k % 10 = x
    generalize n / 10 ^ k % 10 = y
    generalize m % 10 ^ k = r at *
    generalize n % 10 ^ k = s at *
    generalize 10 ^ k = g at *
    unfold cmpN
    by_cases h1 : x < y
    · have h2 : g * (x + 1) ≤ g * y := Nat.mul_le_mul_left _ (by omega)
      rw [Nat.mul_add] at h2
      rw [if_pos (by omega), if_pos (by omega)]
    · by_cases h2 : y < x
      · have h3 : g * (y + 1) ≤ g * x := Nat.mul_le_mul_left _ (by omega)
        rw [Nat.mul_add] at h3
        rw [if_neg (by omega), if_pos (by omega), if_neg (by omega), if_pos (by omega)]
      · have h3 : x = y := by omega
        subst h3
        rw [if_neg (by omega), if_neg (by omega)]
        simp only [Nat.add_lt_add_iff_right]

theorem cmp_suf {p m n K L : Nat} (h1 : Fin p m K) (h2 : Fin p n L) : cmpL (suf p m K) (suf p n L) = cmpN m n := by
  have lens : ∀ {m K : Nat}, Fin p m K → (suf p m K).length = K + if 0 < p then 1 else 0 := fun {m K} h => by
    rw [suf_length]
    have := h.1
    by_cases hp : 0 < p
    · rw [if_pos (by omega), if_pos hp]
    · rw [if_neg (by omega), if_neg hp]
  have far : ∀ {m n K L : Nat}, Fin p m K → Fin p n L → K < L → m < n := fun {m n K L} h1 h2 h => by
    have h3 : 10 ^ (L - 1) ≤ n := by
      rcases h2.2.2 with h3 | h3
      · have := h1.1; omega
      · exact h3
    have h4 : 10 ^ K ≤ 10 ^ (L - 1) := Nat.pow_le_pow_right (by omega) (by omega)
    have := h1.2.1
    omega
  unfold cmpL
  rw [lens h1, lens h2]
  by_cases a : K < L
  · have := far h1 h2 a
    rw [if_pos (by omega)]
    unfold cmpN
    rw [if_pos this]
  · by_cases b : L < K
    · have := far h2 h1 b
      rw [if_neg (by omega), if_pos (by omega)]
      unfold cmpN
      rw [if_neg (by omega), if_pos this]
    · have e : K = L := by omega
      subst e
      rw [if_neg (by omega), if_neg (by omega), lex_suf, Nat.mod_eq_of_lt h1.2.1, Nat.mod_eq_of_lt h2.2.1]
end Txt
end Go.Proofs.Qxb6600163a
