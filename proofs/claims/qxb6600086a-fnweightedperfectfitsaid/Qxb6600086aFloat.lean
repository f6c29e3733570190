/-
  PLAIN FACTS ON DOUBLES (2): what the operations give on words without a sign.
-/
import Derived.Test.Qxb6600086aIeee
namespace Go.Proofs.Qxb6600086a
namespace Fl
open Ieee

/-- The significand and the exponent (over 2^-1074) of a word without its sign; its number in units of 2^-1074. -/
def mg (r : Nat) : Nat := if r < 4503599627370496 then r else 4503599627370496 + r % 4503599627370496
def ex (r : Nat) : Nat := if r < 4503599627370496 then 0 else r / 4503599627370496 - 1
def V (r : Nat) : Nat := mg r * 2 ^ ex r

theorem split_word (r : Nat) : r = ex r * 4503599627370496 + mg r := by unfold ex mg; split <;> omega
theorem mg_lt (r : Nat) : mg r < 9007199254740992 := by unfold mg; split <;> omega
theorem mg_form (r : Nat) : ex r = 0 ∨ 4503599627370496 ≤ mg r := by unfold ex mg; split <;> omega
theorem mk_word {e M : Nat} (hM : e = 0 ∨ 4503599627370496 ≤ M) (hMu : M < 9007199254740992) : mg (e * 4503599627370496 + M) = M ∧ ex (e * 4503599627370496 + M) = e := by
  unfold mg ex
  split <;> constructor <;> omega
theorem V_mk {e M : Nat} (hM : e = 0 ∨ 4503599627370496 ≤ M) (hMu : M < 9007199254740992) : V (e * 4503599627370496 + M) = M * 2 ^ e := by
  obtain ⟨h1, h2⟩ := mk_word hM hMu
  unfold V; rw [h1, h2]

theorem V_lt {a b : Nat} (h : a < b) : V a < V b := by
  have a1 := split_word a; have a2 := mg_lt a; have a3 := mg_form a
  have b1 := split_word b; have b2 := mg_lt b; have b3 := mg_form b
  unfold V
  generalize mg a = M1 at *
  generalize ex a = e1 at *
  generalize mg b = M2 at *
  generalize ex b = e2 at *
  rcases Nat.lt_trichotomy e1 e2 with hl | hl | hl
  · have h1 : M1 * 2 ^ e1 < 9007199254740992 * 2 ^ e1 := Nat.mul_lt_mul_of_pos_right a2 (Nat.two_pow_pos _)
    have h2 : 4503599627370496 * 2 ^ e2 ≤ M2 * 2 ^ e2 := Nat.mul_le_mul_right _ (by omega)
    have h3 : 2 ^ (e1 + 1) ≤ 2 ^ e2 := Nat.pow_le_pow_right (by omega) (by omega)
    rw [Nat.pow_succ] at h3
    generalize 2 ^ e1 = g1 at *
    generalize M2 * 2 ^ e2 = y at *
    generalize 2 ^ e2 = g2 at *
    omega
  · subst hl
    exact Nat.mul_lt_mul_of_pos_right (by omega) (Nat.two_pow_pos _)
  · omega
theorem V_le {a b : Nat} (h : a ≤ b) : V a ≤ V b := by
  rcases Nat.lt_or_eq_of_le h with h | h
  · exact Nat.le_of_lt (V_lt h)
  · rw [h]; exact Nat.le_refl _
theorem V_inj {a b : Nat} (h : V a = V b) : a = b := by
  rcases Nat.lt_trichotomy a b with hl | hl | hl
  · have := V_lt hl; omega
  · exact hl
  · have := V_lt hl; omega
theorem V_pos {a : Nat} (h : 0 < a) : 0 < V a := by
  have := V_lt h
  have h0 : V 0 = 0 := rfl
  omega

theorem read_word (s : Bool) {r : Nat} (h : r < 9218868437227405312) : double.read (double.word s r) = .number s (mg r) (ex r - 1074) := by
  unfold Format.read Format.word
  rw [sw, bin, inf, lp]
  have e1 : (if s = true then 9223372036854775808 + r else r) % 9223372036854775808 = r := by cases s <;> simp <;> omega
  have e2 : ((if s = true then 9223372036854775808 + r else r) / 9223372036854775808 % 2 == 1) = s := by
    cases s
    · have : r / 9223372036854775808 % 2 = 0 := by omega
      simp [this]
    · simp
      omega
  simp only [e1, e2]
  unfold mg ex
  by_cases hr : r < 4503599627370496
  · simp [hr]
  · simp only [if_neg hr, if_pos h]
    congr 1
theorem read_fin {r : Nat} (h : r < 9218868437227405312) : double.read r = .number false (mg r) (ex r - 1074) := read_word false h
theorem read_inf : double.read 9218868437227405312 = .infinity false := by decide
theorem read_zero : double.read 0 = .number false 0 (-1074) := by decide

/-! ### order -/
theorem compare_nat_int (a b : Nat) : compare (a : Int) (b : Int) = compare a b := by
  simp only [compare, compareOfLessAndEq]
  simp only [Int.ofNat_lt, Int.natCast_inj]
theorem compare_eq_of {a b c d : Nat} (h1 : a < b ↔ c < d) (h2 : a = b ↔ c = d) : compare a b = compare c d := by
  simp only [compare, compareOfLessAndEq, h1, h2]

theorem order_eq {a b : Nat} (ha : a ≤ 9218868437227405312) (hb : b ≤ 9218868437227405312) : double.order a b = some (compare a b) := by
  unfold Format.order
  rcases Nat.lt_or_eq_of_le ha with ha | rfl
  · rcases Nat.lt_or_eq_of_le hb with hb | rfl
    · rw [read_fin ha, read_fin hb]
      simp only [Datum.order, signed]
      obtain ⟨m, u, v, hu, hv, eu, ev⟩ : ∃ m u v : Nat, ex a = m + u ∧ ex b = m + v ∧ ((ex a : Int) - 1074 - min ((ex a : Int) - 1074) ((ex b : Int) - 1074)).toNat = u ∧ ((ex b : Int) - 1074 - min ((ex a : Int) - 1074) ((ex b : Int) - 1074)).toNat = v :=
        ⟨min (ex a) (ex b), ex a - min (ex a) (ex b), ex b - min (ex a) (ex b), by omega, by omega, by omega, by omega⟩
      rw [eu, ev]
      simp only [Bool.false_eq_true, if_false, Nat.shiftLeft_eq]
      rw [compare_nat_int]
      congr 1
      have va : V a = mg a * 2 ^ u * 2 ^ m := by unfold V; rw [hu, Nat.pow_add, Nat.mul_comm (2 ^ m), Nat.mul_assoc]
      have vb : V b = mg b * 2 ^ v * 2 ^ m := by unfold V; rw [hv, Nat.pow_add, Nat.mul_comm (2 ^ m), Nat.mul_assoc]
      have h1 : mg a * 2 ^ u < mg b * 2 ^ v ↔ V a < V b := by
        rw [va, vb]
        exact (Nat.mul_lt_mul_right (Nat.two_pow_pos m)).symm
      have h2 : mg a * 2 ^ u = mg b * 2 ^ v ↔ V a = V b := by
        rw [va, vb]
        exact (Nat.mul_left_inj (Nat.pos_iff_ne_zero.1 (Nat.two_pow_pos m))).symm
      apply compare_eq_of
      · rw [h1]
        constructor
        · intro h; apply Nat.lt_of_not_le; intro h'; have := V_le h'; omega
        · exact V_lt
      · rw [h2]
        exact ⟨V_inj, fun h => by rw [h]⟩
    · rw [read_fin ha, read_inf]
      simp only [Datum.order]
      have : compare a 9218868437227405312 = .lt := by simp only [compare, compareOfLessAndEq, if_pos ha]
      rw [this]; rfl
  · rcases Nat.lt_or_eq_of_le hb with hb | rfl
    · rw [read_fin hb, read_inf]
      simp only [Datum.order]
      have : compare 9218868437227405312 b = .gt := by
        simp only [compare, compareOfLessAndEq]
        rw [if_neg (by omega), if_neg (by omega)]
      rw [this]; rfl
    · decide

/-! ### float64(n) -/
/-- 1074, kept shut so that no power of it is reckoned. -/
def T : Nat := 1074
theorem T_eq : T = 1074 := rfl
def fl (n : Nat) : Nat := double.nearest false n 0

theorem nr_eq {mag S M e : Nat} {place : Int} (h : mag ≠ 0) (hS : 0 ≤ place + 1074 + S)
    (hM : e = 0 ∨ 4503599627370496 ≤ M) (hMu : M < 9007199254740992) (hI : e * 4503599627370496 + M ≤ 9218868437227405312) (hX : mag * 2 ^ (place + 1074 + S).toNat = M * 2 ^ (e + S)) :
    nr mag place = e * 4503599627370496 + M :=
  Nat.le_antisymm (nr_le h hS hM hMu (Nat.le_of_eq hX)) (le_nr h hS hM hMu hI (Nat.le_of_eq hX.symm))

theorem fl_form {n : Nat} (h0 : 0 < n) (h : n ≤ 9007199254740992) : ∃ e M, fl n = e * 4503599627370496 + M ∧ 4503599627370496 ≤ M ∧ M < 9007199254740992 ∧ e ≤ 1075 ∧ M * 2 ^ e = n * 2 ^ T := by
  have hT := T_eq
  have hn : n ≠ 0 := by omega
  have hlog1 : 2 ^ n.log2 ≤ n := Nat.log2_self_le hn
  have hlog2 : n < 2 ^ (n.log2 + 1) := Nat.lt_log2_self
  have hf : fl n = nr n 0 := by unfold fl; rw [nearest_eq hn, word_pos]
  rw [hf]
  generalize n.log2 = b at *
  by_cases hb : b ≤ 52
  · obtain ⟨d, hd⟩ : ∃ d, b + d = 52 := ⟨52 - b, by omega⟩
    have hM1 : 4503599627370496 ≤ n * 2 ^ d := by
      have := Nat.mul_le_mul_right (2 ^ d) hlog1
      rw [← Nat.pow_add, hd] at this
      exact this
    have hM2 : n * 2 ^ d < 9007199254740992 := by
      have := Nat.mul_lt_mul_of_pos_right hlog2 (Nat.two_pow_pos d)
      rw [← Nat.pow_add, show b + 1 + d = 53 by omega] at this
      exact this
    have hv : n * 2 ^ d * 2 ^ (1022 + b) = n * 2 ^ T := by
      have ed : d + (1022 + b) = T := by omega
      rw [Nat.mul_assoc, ← Nat.pow_add, ed]
    refine ⟨1022 + b, n * 2 ^ d, ?_, hM1, hM2, by omega, hv⟩
    refine nr_eq (S := 0) hn (by omega) (.inr hM1) hM2 (by omega) ?_
    have e1 : ((0 : Int) + 1074 + (0 : Nat)).toNat = T := by omega
    rw [e1, Nat.add_zero, hv]
  · have hn2 : n = 9007199254740992 := by
      have : 2 ^ 53 ≤ 2 ^ b := Nat.pow_le_pow_right (by omega) (by omega)
      have e : (2 : Nat) ^ 53 = 9007199254740992 := by decide
      omega
    have hv : 4503599627370496 * 2 ^ (T + 1) = n * 2 ^ T := by
      rw [hn2, Nat.pow_succ]; generalize 2 ^ T = g; omega
    refine ⟨T + 1, 4503599627370496, ?_, by omega, by omega, by omega, hv⟩
    refine nr_eq (S := 0) hn (by omega) (.inr (by omega)) (by omega) (by omega) ?_
    have e1 : ((0 : Int) + 1074 + (0 : Nat)).toNat = T := by omega
    rw [e1, Nat.add_zero, hv]

theorem fl_zero : fl 0 = 0 := rfl
theorem fl_fin {n : Nat} (h : n ≤ 9007199254740992) : fl n < 9218868437227405312 := by
  rcases Nat.eq_zero_or_pos n with rfl | h0
  · rw [fl_zero]; omega
  · obtain ⟨e, M, h1, h2, h3, h4, h5⟩ := fl_form h0 h
    rw [h1]; omega
theorem fl_V {n : Nat} (h : n ≤ 9007199254740992) : V (fl n) = n * 2 ^ T := by
  rcases Nat.eq_zero_or_pos n with rfl | h0
  · rw [fl_zero, Nat.zero_mul]; rfl
  · obtain ⟨e, M, h1, h2, h3, h4, h5⟩ := fl_form h0 h
    rw [h1, V_mk (.inr h2) h3, h5]
theorem fl_pos {n : Nat} (h0 : 0 < n) (h : n ≤ 9007199254740992) : 0 < fl n := by
  obtain ⟨e, M, h1, h2, h3, h4, h5⟩ := fl_form h0 h
  rw [h1]; omega
theorem V_one : V 4607182418800017408 = 2 ^ T := by
  have hT := T_eq
  have e : 4607182418800017408 = (T - 52) * 4503599627370496 + 4503599627370496 := by omega
  rw [e, V_mk (.inr (by omega)) (by omega), show (4503599627370496 : Nat) = 2 ^ 52 by decide, ← Nat.pow_add]
  have e2 : 52 + (T - 52) = T := by omega
  rw [e2]
theorem fl_one : fl 1 = 4607182418800017408 := by
  apply V_inj
  rw [fl_V (by omega), V_one, Nat.one_mul]

/-- A product that is a whole number up to 2^53 is exact. -/
theorem mul_fl {a b : Nat} (ha0 : 0 < a) (hb0 : 0 < b) (ha : a ≤ 9007199254740992) (hb : b ≤ 9007199254740992) (hab : a * b ≤ 9007199254740992) : double.mul (fl a) (fl b) = some (fl (a * b)) := by
  have hT := T_eq
  unfold Format.mul
  rw [read_fin (fl_fin ha), read_fin (fl_fin hb)]
  simp only [Datum.product, Option.map_some, Format.write, Bool.xor_self]
  congr 1
  have va := fl_V ha
  have vb := fl_V hb
  have ma : 0 < mg (fl a) := by
    apply Nat.pos_of_ne_zero; intro e; unfold V at va; rw [e, Nat.zero_mul] at va
    have := Nat.mul_pos ha0 (Nat.two_pow_pos T); omega
  have mb : 0 < mg (fl b) := by
    apply Nat.pos_of_ne_zero; intro e; unfold V at vb; rw [e, Nat.zero_mul] at vb
    have := Nat.mul_pos hb0 (Nat.two_pow_pos T); omega
  have hm : mg (fl a) * mg (fl b) ≠ 0 := Nat.pos_iff_ne_zero.1 (Nat.mul_pos ma mb)
  rw [nearest_eq hm, word_pos]
  obtain ⟨e, M, h1, h2, h3, h4, h5⟩ := fl_form (Nat.mul_pos ha0 hb0) hab
  rw [h1]
  refine nr_eq (S := T) hm (by omega) (.inr h2) h3 (by omega) ?_
  have ee : ((ex (fl a) : Int) - 1074 + ((ex (fl b) : Int) - 1074) + 1074 + (T : Nat)).toNat = ex (fl a) + ex (fl b) := by omega
  rw [ee, Nat.pow_add, Nat.pow_add 2 e T, ← Nat.mul_assoc M, h5]
  unfold V at va vb
  calc mg (fl a) * mg (fl b) * (2 ^ ex (fl a) * 2 ^ ex (fl b)) = (mg (fl a) * 2 ^ ex (fl a)) * (mg (fl b) * 2 ^ ex (fl b)) := by
        simp only [Nat.mul_assoc, Nat.mul_left_comm]
    _ = a * b * 2 ^ T * 2 ^ T := by rw [va, vb]; simp only [Nat.mul_assoc, Nat.mul_left_comm]
end Fl
end Go.Proofs.Qxb6600086a
