/-
  PLAIN FACTS ON DOUBLES, NO Go IN SIGHT. A finite word without its sign is e * 2^52 + M; it stands for M * 2^e units of 2^-1074. To round is to find the word: what lies below (above) the number of a word is rounded to a word below (above) it.
-/
import Ieee.Arith
namespace Go.Proofs.Qxb6600086a
namespace Fl
open Ieee

theorem cut_le {neg : Bool} {n d k : Nat} (h : n ≤ k * 2 ^ d) : Toward.even.cut neg n d ≤ k := by
  unfold Toward.cut
  simp only [Nat.one_shiftLeft]
  by_cases hd : d ≤ n.log2 + 2
  · rw [Nat.min_eq_left hd]
    have hp : 0 < 2 ^ d := Nat.two_pow_pos d
    generalize 2 ^ d = g at *
    have hdm := Nat.div_add_mod n g
    have hml := Nat.mod_lt n hp
    generalize n / g = q at *
    generalize n % g = r at *
    by_cases hr : r = 0
    · subst hr
      have hq : q ≤ k := by
        apply Nat.le_of_mul_le_mul_left _ hp
        rw [Nat.mul_comm g k]; omega
      have e1 : ¬ (g < 2 * 0) := by omega
      have e2 : (g == 2 * 0) = false := beq_eq_false_iff_ne.2 (by omega)
      simp only [e1, e2]
      simpa using hq
    · have hq : q + 1 ≤ k := by
        apply Nat.lt_of_mul_lt_mul_left (a := g)
        rw [Nat.mul_comm g k]; omega
      have hb : ∀ b : Bool, q + b.toNat ≤ k := by intro b; cases b <;> simp <;> omega
      exact hb _
  · have hd' : n.log2 + 2 ≤ d := by omega
    rw [Nat.min_eq_right hd']
    have hn : n < 2 ^ (n.log2 + 1) := Nat.lt_log2_self
    have hg : 2 ^ (n.log2 + 2) = 2 * 2 ^ (n.log2 + 1) := by rw [Nat.pow_succ 2 (n.log2 + 1), Nat.mul_comm]
    rw [hg]
    generalize 2 ^ (n.log2 + 1) = g at *
    rw [Nat.div_eq_of_lt (by omega), Nat.mod_eq_of_lt (by omega)]
    have e1 : ¬ (2 * g < 2 * n) := by omega
    have e2 : (2 * g == 2 * n) = false := beq_eq_false_iff_ne.2 (by omega)
    simp only [e1, e2]
    simp

theorem le_cut {neg : Bool} {n d k : Nat} (h : k * 2 ^ d ≤ n) : k ≤ Toward.even.cut neg n d := by
  unfold Toward.cut
  simp only [Nat.one_shiftLeft]
  by_cases hd : d ≤ n.log2 + 2
  · rw [Nat.min_eq_left hd]
    have hp : 0 < 2 ^ d := Nat.two_pow_pos d
    have : k ≤ n / 2 ^ d := (Nat.le_div_iff_mul_le hp).2 h
    exact Nat.le_trans this (Nat.le_add_right _ _)
  · have hn : n < 2 ^ (n.log2 + 1) := Nat.lt_log2_self
    have hm : 2 ^ (n.log2 + 1) ≤ 2 ^ d := Nat.pow_le_pow_right (by omega) (by omega)
    have hk : k = 0 := by
      by_cases hk : k = 0
      · exact hk
      · have : 1 * 2 ^ d ≤ k * 2 ^ d := Nat.mul_le_mul_right _ (by omega)
        omega
    rw [hk]; exact Nat.zero_le _

/-- The word without its sign that is nearest to 'mag * 2 ^ place'. -/
def nr (mag : Nat) (place : Int) : Nat :=
  min (((max (place + mag.log2 - 52) (-1074)) + 1074).toNat * 4503599627370496 + Toward.even.cut false (mag <<< (place - max (place + mag.log2 - 52) (-1074)).toNat) ((max (place + mag.log2 - 52) (-1074)) - place).toNat) 9218868437227405312

theorem cut_neg (n d : Nat) (neg : Bool) : Toward.even.cut neg n d = Toward.even.cut false n d := rfl

theorem lp : double.leastPlace = -1074 := by decide
theorem fb : double.fractionBits = 52 := rfl
theorem bin : double.binade = 4503599627370496 := by decide
theorem inf : double.infRung = 9218868437227405312 := by decide
theorem sw : double.signWeight = 9223372036854775808 := by decide

theorem nearest_eq {mag : Nat} (h : mag ≠ 0) (neg : Bool) (place : Int) : double.nearest neg mag place = double.word neg (nr mag place) := by
  unfold Format.nearest nr
  rw [if_neg h, lp, bin, inf, fb]
  simp only [cut_neg _ _ neg]
  rfl

theorem nearest_zero (neg : Bool) (place : Int) : double.nearest neg 0 place = double.word neg 0 := rfl

theorem word_pos (r : Nat) : double.word false r = r := rfl

theorem nr_le_inf (mag : Nat) (place : Int) : nr mag place ≤ 9218868437227405312 := Nat.min_le_right _ _

theorem nr_spec (mag S : Nat) (place : Int) (h : mag ≠ 0) (hS : 0 ≤ place + 1074 + S) :
    ∃ L kept, nr mag place = min (L * 4503599627370496 + kept) 9218868437227405312 ∧
      (∀ k, k * 2 ^ (L + S) ≤ mag * 2 ^ (place + 1074 + S).toNat → k ≤ kept) ∧
      (∀ k, mag * 2 ^ (place + 1074 + S).toNat ≤ k * 2 ^ (L + S) → kept ≤ k) ∧
      mag * 2 ^ (place + 1074 + S).toNat < 2 ^ 53 * 2 ^ (L + S) ∧
      (L = 0 ∨ 2 ^ 52 * 2 ^ (L + S) ≤ mag * 2 ^ (place + 1074 + S).toNat) := by
  have hlog1 : 2 ^ mag.log2 ≤ mag := Nat.log2_self_le h
  have hlog2 : mag < 2 ^ (mag.log2 + 1) := Nat.lt_log2_self
  unfold nr
  generalize mag.log2 = lg at *
  generalize hlast : max (place + (lg : Int) - 52) (-1074) = last
  have hl1 : place + (lg : Int) - 52 ≤ last := by omega
  have hl2 : -1074 ≤ last := by omega
  have hl3 : last = place + (lg : Int) - 52 ∨ last = -1074 := by omega
  clear hlast
  obtain ⟨L, rfl⟩ : ∃ L : Nat, last = L - 1074 := ⟨(last + 1074).toNat, by omega⟩
  obtain ⟨t, ht⟩ : ∃ t : Nat, place + 1074 + S = t := ⟨(place + 1074 + S).toNat, by omega⟩
  rw [ht, Int.toNat_natCast]
  refine ⟨L, Toward.even.cut false (mag <<< (place - (L - 1074)).toNat) ((L - 1074) - place).toNat, ?_, ?_, ?_, ?_, ?_⟩
  · have : ((L : Int) - 1074 + 1074).toNat = L := by omega
    rw [this]
  · intro k hk
    apply le_cut
    by_cases hp : (L : Int) - 1074 ≤ place
    · obtain ⟨a, ha⟩ : ∃ a : Nat, place - (L - 1074) = a := ⟨(place - (L - 1074)).toNat, by omega⟩
      have h0 : ((L : Int) - 1074 - place).toNat = 0 := by omega
      rw [h0, ha, Int.toNat_natCast, Nat.shiftLeft_eq]
      have e : t = a + (L + S) := by omega
      rw [e, Nat.pow_add 2 a (L + S), ← Nat.mul_assoc] at hk
      simpa using Nat.le_of_mul_le_mul_right hk (Nat.two_pow_pos _)
    · obtain ⟨d, hd⟩ : ∃ d : Nat, (L : Int) - 1074 - place = d := ⟨((L : Int) - 1074 - place).toNat, by omega⟩
      have h0 : (place - ((L : Int) - 1074)).toNat = 0 := by omega
      rw [h0, hd, Int.toNat_natCast, Nat.shiftLeft_zero]
      have e : L + S = d + t := by omega
      rw [e, Nat.pow_add 2 d t, ← Nat.mul_assoc] at hk
      exact Nat.le_of_mul_le_mul_right hk (Nat.two_pow_pos _)
  · intro k hk
    apply cut_le
    by_cases hp : (L : Int) - 1074 ≤ place
    · obtain ⟨a, ha⟩ : ∃ a : Nat, place - (L - 1074) = a := ⟨(place - (L - 1074)).toNat, by omega⟩
      have h0 : ((L : Int) - 1074 - place).toNat = 0 := by omega
      rw [h0, ha, Int.toNat_natCast, Nat.shiftLeft_eq]
      have e : t = a + (L + S) := by omega
      rw [e, Nat.pow_add 2 a (L + S), ← Nat.mul_assoc] at hk
      simpa using Nat.le_of_mul_le_mul_right hk (Nat.two_pow_pos _)
    · obtain ⟨d, hd⟩ : ∃ d : Nat, (L : Int) - 1074 - place = d := ⟨((L : Int) - 1074 - place).toNat, by omega⟩
      have h0 : (place - ((L : Int) - 1074)).toNat = 0 := by omega
      rw [h0, hd, Int.toNat_natCast, Nat.shiftLeft_zero]
      have e : L + S = d + t := by omega
      rw [e, Nat.pow_add 2 d t, ← Nat.mul_assoc] at hk
      exact Nat.le_of_mul_le_mul_right hk (Nat.two_pow_pos _)
  · have h1 : mag * 2 ^ t < 2 ^ (lg + 1) * 2 ^ t := Nat.mul_lt_mul_of_pos_right hlog2 (Nat.two_pow_pos _)
    rw [← Nat.pow_add] at h1
    rw [← Nat.pow_add]
    exact Nat.lt_of_lt_of_le h1 (Nat.pow_le_pow_right (by omega) (by omega))
  · rcases hl3 with h3 | h3
    · right
      have h1 : 2 ^ lg * 2 ^ t ≤ mag * 2 ^ t := Nat.mul_le_mul_right _ hlog1
      rw [← Nat.pow_add] at h1
      rw [← Nat.pow_add]
      exact Nat.le_trans (Nat.pow_le_pow_right (by omega) (by omega)) h1
    · left; omega

/-- What is not above the number of a word is rounded to a word not above it. -/
theorem nr_le {mag S M e : Nat} {place : Int} (h : mag ≠ 0) (hS : 0 ≤ place + 1074 + S)
    (hM : e = 0 ∨ 4503599627370496 ≤ M) (hMu : M < 9007199254740992) (hX : mag * 2 ^ (place + 1074 + S).toNat ≤ M * 2 ^ (e + S)) :
    nr mag place ≤ e * 4503599627370496 + M := by
  obtain ⟨L, kept, e1, _, h2, h3, h4⟩ := nr_spec mag S place h hS
  rw [e1]
  generalize mag * 2 ^ (place + 1074 + S).toNat = X at *
  refine Nat.le_trans (Nat.min_le_left _ _) ?_
  rcases Nat.lt_trichotomy L e with hl | hl | hl
  · have hk : kept ≤ 2 ^ 53 := h2 _ (Nat.le_of_lt h3)
    have : (2 : Nat) ^ 53 = 9007199254740992 := by decide
    omega
  · subst hl
    have := h2 M hX
    omega
  · exfalso
    have h5 : 2 ^ 52 * 2 ^ (L + S) ≤ X := by rcases h4 with h4 | h4; omega; exact h4
    have h6 : 2 ^ (e + S + 1) ≤ 2 ^ (L + S) := Nat.pow_le_pow_right (by omega) (by omega)
    rw [Nat.pow_succ] at h6
    have h7 : M * 2 ^ (e + S) < 9007199254740992 * 2 ^ (e + S) := Nat.mul_lt_mul_of_pos_right hMu (Nat.two_pow_pos _)
    have : (2 : Nat) ^ 52 = 4503599627370496 := by decide
    generalize 2 ^ (e + S) = g at *
    generalize 2 ^ (L + S) = g' at *
    omega

/-- What is not below the number of a word is rounded to a word not below it. -/
theorem le_nr {mag S M e : Nat} {place : Int} (h : mag ≠ 0) (hS : 0 ≤ place + 1074 + S)
    (hM : e = 0 ∨ 4503599627370496 ≤ M) (hMu : M < 9007199254740992) (hI : e * 4503599627370496 + M ≤ 9218868437227405312) (hX : M * 2 ^ (e + S) ≤ mag * 2 ^ (place + 1074 + S).toNat) :
    e * 4503599627370496 + M ≤ nr mag place := by
  obtain ⟨L, kept, e1, h1, h2, h3, h4⟩ := nr_spec mag S place h hS
  rw [e1]
  generalize mag * 2 ^ (place + 1074 + S).toNat = X at *
  refine Nat.le_min.2 ⟨?_, hI⟩
  rcases Nat.lt_trichotomy L e with hl | hl | hl
  · exfalso
    have h5 : 4503599627370496 * 2 ^ (e + S) ≤ M * 2 ^ (e + S) := Nat.mul_le_mul_right _ (by omega)
    have h6 : 2 ^ (L + S + 1) ≤ 2 ^ (e + S) := Nat.pow_le_pow_right (by omega) (by omega)
    rw [Nat.pow_succ] at h6
    have : (2 : Nat) ^ 53 = 9007199254740992 := by decide
    generalize M * 2 ^ (e + S) = y at *
    generalize 2 ^ (e + S) = g at *
    generalize 2 ^ (L + S) = g' at *
    omega
  · subst hl
    have := h1 M hX
    omega
  · have h5 : 2 ^ 52 * 2 ^ (L + S) ≤ X := by rcases h4 with h4 | h4; omega; exact h4
    have := h1 _ h5
    have e52 : (2 : Nat) ^ 52 = 4503599627370496 := by decide
    omega

end Fl
end Go.Proofs.Qxb6600086a
