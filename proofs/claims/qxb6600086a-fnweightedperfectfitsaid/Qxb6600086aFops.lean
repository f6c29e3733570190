/-
  PLAIN FACTS ON DOUBLES (3): quotients, differences, sums.
-/
import Derived.Test.Qxb6600086aFloat
namespace Go.Proofs.Qxb6600086a
namespace Fl
open Ieee

/-- The arithmetic of the quotient with its sticky digit: 'D / n' against 'K' at two scales. -/
theorem sticky_le {D n M A Bx g : Nat} (hn : 0 < n) (hD : g * 2 ≤ D) (hnM : n * M < g * 4) (h : D * 2 ^ A ≤ n * M * 2 ^ Bx) :
    (2 * (D / n) + (D % n != 0).toNat) * 2 ^ A ≤ M * 2 ^ (Bx + 1) := by
  by_cases hAB : A ≤ Bx
  · obtain ⟨c, rfl⟩ : ∃ c, Bx = A + c := ⟨Bx - A, by omega⟩
    rw [Nat.pow_add, Nat.mul_comm (2 ^ A), ← Nat.mul_assoc] at h
    have h1 := Nat.le_of_mul_le_mul_right h (Nat.two_pow_pos A)
    rw [Nat.mul_assoc] at h1
    have e : M * 2 ^ (A + c + 1) = 2 * (M * 2 ^ c) * 2 ^ A := by
      rw [Nat.pow_succ, Nat.pow_add]; simp only [Nat.mul_left_comm, Nat.mul_comm]
    rw [e]
    apply Nat.mul_le_mul_right
    generalize M * 2 ^ c = K at *
    have hdm := Nat.div_add_mod D n
    have hml := Nat.mod_lt D hn
    generalize D / n = q at *
    generalize D % n = r at *
    by_cases hr : r = 0
    · subst hr
      have hq : q ≤ K := by apply Nat.le_of_mul_le_mul_left _ hn; omega
      simp; omega
    · have hq : q + 1 ≤ K := by apply Nat.lt_of_mul_lt_mul_left (a := n); omega
      have hb : ∀ b : Bool, 2 * q + b.toNat ≤ 2 * K := by intro b; cases b <;> simp <;> omega
      exact hb _
  · exfalso
    obtain ⟨c, rfl⟩ : ∃ c, A = Bx + 1 + c := ⟨A - Bx - 1, by omega⟩
    have e : D * 2 ^ (Bx + 1 + c) = D * 2 ^ c * 2 * 2 ^ Bx := by
      rw [Nat.pow_add, Nat.pow_succ]; simp only [Nat.mul_assoc, Nat.mul_left_comm, Nat.mul_comm]
    rw [e] at h
    have h1 := Nat.le_of_mul_le_mul_right h (Nat.two_pow_pos Bx)
    have h2 : D * 1 ≤ D * 2 ^ c := Nat.mul_le_mul_left _ (Nat.one_le_two_pow)
    omega

theorem le_sticky {D n M A Bx : Nat} (hn : 0 < n) (hD : n * 9007199254740992 ≤ D) (hM : M < 9007199254740992) (h : n * M * 2 ^ Bx ≤ D * 2 ^ A) :
    M * 2 ^ (Bx + 1) ≤ (2 * (D / n) + (D % n != 0).toNat) * 2 ^ A := by
  by_cases hAB : A ≤ Bx
  · obtain ⟨c, rfl⟩ : ∃ c, Bx = A + c := ⟨Bx - A, by omega⟩
    rw [Nat.pow_add, Nat.mul_comm (2 ^ A), ← Nat.mul_assoc] at h
    have h1 := Nat.le_of_mul_le_mul_right h (Nat.two_pow_pos A)
    rw [Nat.mul_assoc] at h1
    have e : M * 2 ^ (A + c + 1) = 2 * (M * 2 ^ c) * 2 ^ A := by
      rw [Nat.pow_succ, Nat.pow_add]; simp only [Nat.mul_left_comm, Nat.mul_comm]
    rw [e]
    apply Nat.mul_le_mul_right
    generalize M * 2 ^ c = K at *
    have : K ≤ D / n := (Nat.le_div_iff_mul_le hn).2 (by rw [Nat.mul_comm]; exact h1)
    omega
  · obtain ⟨c, rfl⟩ : ∃ c, A = Bx + 1 + c := ⟨A - Bx - 1, by omega⟩
    have h1 : 9007199254740992 ≤ D / n := (Nat.le_div_iff_mul_le hn).2 (by rw [Nat.mul_comm]; exact hD)
    have h2 : 2 ^ (Bx + 1) ≤ 2 ^ (Bx + 1 + c) := Nat.pow_le_pow_right (by omega) (by omega)
    exact Nat.mul_le_mul (by omega) h2

theorem mg_pos {x : Nat} (h : 0 < x) : 0 < mg x := by
  have := V_pos h
  unfold V at this
  exact Nat.pos_of_mul_pos_right this

/-- A quotient of two finite words, rounded: it is not above (below) a word where the true quotient is not. -/
theorem div_spec {x y : Nat} (hx : x < 9218868437227405312) (hy : y < 9218868437227405312) (hx0 : 0 < x) (hy0 : 0 < y) :
    ∃ q, double.div x y = some q ∧ q ≤ 9218868437227405312 ∧ ∀ r, r < 9218868437227405312 → (V x * 2 ^ T ≤ V r * V y → q ≤ r) ∧ (V r * V y ≤ V x * 2 ^ T → r ≤ q) := by
  have hT := T_eq
  have hm := mg_pos hx0
  have hn := mg_pos hy0
  have hm' : mg x ≠ 0 := by omega
  have hn' : mg y ≠ 0 := by omega
  have lm1 : 2 ^ (mg x).log2 ≤ mg x := Nat.log2_self_le hm'
  have ln2 : mg y < 2 ^ ((mg y).log2 + 1) := Nat.lt_log2_self
  have lm3 : (mg x).log2 ≤ 52 := by
    have h1 := mg_lt x
    apply Nat.le_of_lt_succ
    apply (Nat.pow_lt_pow_iff_right (a := 2) (by omega)).1
    have : (2 : Nat) ^ Nat.succ 52 = 9007199254740992 := by decide
    omega
  unfold Format.div
  rw [read_fin hx, read_fin hy]
  simp only [Datum.quotient, if_neg hn', Option.map_some, Format.write, Bool.xor_self, fb]
  generalize hl : (mg x).log2 = a at *
  generalize (mg y).log2 = b at *
  obtain ⟨more, hmore⟩ : ∃ more, 52 + 2 + b - a = more := ⟨_, rfl⟩
  rw [hmore, Nat.shiftLeft_eq]
  have hDlow : 2 ^ (54 + b) ≤ mg x * 2 ^ more := by
    have := Nat.mul_le_mul_right (2 ^ more) lm1
    rw [← Nat.pow_add, show a + more = 54 + b by omega] at this
    exact this
  have h53 : (2 : Nat) ^ 53 = 9007199254740992 := by decide
  have e54 : 2 ^ (54 + b) = 2 ^ 53 * 2 ^ (b + 1) := by rw [← Nat.pow_add]; congr 1; omega
  have hD1 : mg y * 9007199254740992 ≤ mg x * 2 ^ more := by
    refine Nat.le_trans ?_ hDlow
    rw [e54, h53, Nat.mul_comm]
    exact Nat.mul_le_mul_left _ (Nat.le_of_lt ln2)
  have hq0 : 9007199254740992 ≤ mg x * 2 ^ more / mg y := (Nat.le_div_iff_mul_le hn).2 (by rw [Nat.mul_comm]; exact hD1)
  have hmag : 2 * (mg x * 2 ^ more / mg y) + (mg x * 2 ^ more % mg y != 0).toNat ≠ 0 := by omega
  rw [nearest_eq hmag, word_pos]
  refine ⟨_, rfl, nr_le_inf _ _, fun r hr => ?_⟩
  have hr1 := split_word r
  have hr2 := mg_lt r
  have hr3 := mg_form r
  have hscale : ((ex x : Int) - 1074 - ((ex y : Int) - 1074) - (more : Int) - 1 + 1074 + ((ex y + more + 1 : Nat) : Int)).toNat = ex x + T := by omega
  have hS : 0 ≤ (ex x : Int) - 1074 - ((ex y : Int) - 1074) - (more : Int) - 1 + 1074 + ((ex y + more + 1 : Nat) : Int) := by omega
  have eL : V x * 2 ^ T * 2 ^ more = mg x * 2 ^ more * 2 ^ (ex x + T) := by
    unfold V; rw [Nat.pow_add]; simp only [Nat.mul_assoc, Nat.mul_left_comm, Nat.mul_comm]
  have eR : V r * V y * 2 ^ more = mg y * mg r * 2 ^ (ex r + (ex y + more)) := by
    unfold V; rw [Nat.pow_add, Nat.pow_add]; simp only [Nat.mul_assoc, Nat.mul_left_comm, Nat.mul_comm]
  constructor
  · intro h
    have h1 := Nat.mul_le_mul_right (2 ^ more) h
    rw [eL, eR] at h1
    have h2 := sticky_le (g := 2 ^ (53 + b)) hn (by rw [← Nat.pow_succ, show Nat.succ (53 + b) = 54 + b by omega]; exact hDlow) ?_ h1
    · rw [hr1]
      refine nr_le (S := ex y + more + 1) hmag hS hr3 hr2 ?_
      rw [hscale]
      exact h2
    · calc mg y * mg r < 2 ^ (b + 1) * 9007199254740992 := by
            refine Nat.lt_of_le_of_lt (Nat.mul_le_mul_left _ (Nat.le_of_lt hr2)) ?_
            exact Nat.mul_lt_mul_of_pos_right ln2 (by omega)
        _ = 2 ^ (54 + b) := by rw [e54, h53, Nat.mul_comm]
        _ ≤ 2 ^ (53 + b) * 4 := by
            rw [show 54 + b = (53 + b) + 1 by omega, Nat.pow_succ]; omega
  · intro h
    have h1 := Nat.mul_le_mul_right (2 ^ more) h
    rw [eL, eR] at h1
    have h2 := le_sticky hn hD1 hr2 h1
    rw [hr1]
    refine le_nr (S := ex y + more + 1) hmag hS hr3 hr2 (by rw [← hr1]; exact Nat.le_of_lt hr) ?_
    rw [hscale]
    exact h2

theorem nearest_nn (mag : Nat) (place : Int) : double.nearest false mag place ≤ 9218868437227405312 := by
  by_cases h : mag = 0
  · subst h; rw [nearest_zero, word_pos]; omega
  · rw [nearest_eq h, word_pos]; exact nr_le_inf _ _

/-- A difference of two finite words is a finite word. -/
theorem sub_spec {x y : Nat} (hx : x < 9218868437227405312) (hy : y < 9218868437227405312) :
    ∃ d, double.sub x y = some d ∧ ∃ s m p, double.read d = .number s m p := by
  unfold Format.sub
  rw [read_fin hx, read_fin hy]
  simp only [Datum.opposite, Bool.not_false, Datum.sum, Option.map_some, Format.write]
  refine ⟨_, rfl, ?_⟩
  obtain ⟨m, u, v, hu, hv, eu, ev, em⟩ : ∃ m u v : Nat, ex x = m + u ∧ ex y = m + v ∧ ((ex x : Int) - 1074 - min ((ex x : Int) - 1074) ((ex y : Int) - 1074)).toNat = u ∧ ((ex y : Int) - 1074 - min ((ex x : Int) - 1074) ((ex y : Int) - 1074)).toNat = v ∧ min ((ex x : Int) - 1074) ((ex y : Int) - 1074) = (m : Int) - 1074 :=
    ⟨min (ex x) (ex y), ex x - min (ex x) (ex y), ex y - min (ex x) (ex y), by omega, by omega, by omega, by omega, by omega⟩
  rw [eu, ev, em]
  simp only [signed, Bool.false_eq_true, if_false, if_true, Nat.shiftLeft_eq]
  generalize hA : mg x * 2 ^ u = A
  generalize hB : mg y * 2 ^ v = B
  by_cases h0 : ((A : Int) + -(B : Int)).natAbs = 0
  · rw [h0, nearest_zero]
    have h1 : (A : Int) + -(B : Int) = 0 := by omega
    rw [if_pos h1]
    exact ⟨_, _, _, read_zero⟩
  · rw [nearest_eq h0]
    have hscale : ((m : Int) - 1074 + 1074 + ((0 : Nat) : Int)).toNat = m := by omega
    have hle : nr ((A : Int) + -(B : Int)).natAbs ((m : Int) - 1074) < 9218868437227405312 := by
      by_cases hc : ((A : Int) + -(B : Int)).natAbs ≤ A
      · refine Nat.lt_of_le_of_lt ?_ hx
        have hs := split_word x
        rw [hs]
        refine nr_le (S := 0) h0 (by omega) (mg_form x) (mg_lt x) ?_
        rw [hscale, Nat.add_zero, hu, Nat.pow_add, Nat.mul_comm (2 ^ m), ← Nat.mul_assoc, hA]
        exact Nat.mul_le_mul_right _ hc
      · have hc' : ((A : Int) + -(B : Int)).natAbs ≤ B := by omega
        refine Nat.lt_of_le_of_lt ?_ hy
        have hs := split_word y
        rw [hs]
        refine nr_le (S := 0) h0 (by omega) (mg_form y) (mg_lt y) ?_
        rw [hscale, Nat.add_zero, hv, Nat.pow_add, Nat.mul_comm (2 ^ m), ← Nat.mul_assoc, hB]
        exact Nat.mul_le_mul_right _ hc'
    exact ⟨_, _, _, read_word _ hle⟩

theorem sub_self {x : Nat} (hx : x < 9218868437227405312) : double.sub x x = some 0 := by
  unfold Format.sub
  rw [read_fin hx]
  simp only [Datum.opposite, Bool.not_false, Datum.sum, Option.map_some, Format.write, signed, Bool.false_eq_true, if_false, if_true]
  generalize (mg x <<< ((ex x : Int) - 1074 - min ((ex x : Int) - 1074) ((ex x : Int) - 1074)).toNat) = A
  have h1 : (A : Int) + -(A : Int) = 0 := by omega
  rw [h1]
  rfl

/-- The square of a finite word. -/
theorem mul_self {d : Nat} {s : Bool} {m : Nat} {p : Int} (h : double.read d = .number s m p) : ∃ t, double.mul d d = some t ∧ t ≤ 9218868437227405312 := by
  unfold Format.mul
  rw [h]
  simp only [Datum.product, Option.map_some, Format.write, Bool.xor_self]
  exact ⟨_, rfl, nearest_nn _ _⟩

theorem div_nn {t y : Nat} (ht : t ≤ 9218868437227405312) (hy : y < 9218868437227405312) (hy0 : 0 < y) : ∃ u, double.div t y = some u ∧ u ≤ 9218868437227405312 := by
  have hn := mg_pos hy0
  have hn' : mg y ≠ 0 := by omega
  unfold Format.div
  rw [read_fin hy]
  rcases Nat.lt_or_eq_of_le ht with ht | rfl
  · rw [read_fin ht]
    simp only [Datum.quotient, if_neg hn', Option.map_some, Format.write, Bool.xor_self]
    exact ⟨_, rfl, nearest_nn _ _⟩
  · rw [read_inf]
    simp only [Datum.quotient, Option.map_some, Format.write, Bool.xor_self]
    exact ⟨_, rfl, by rw [word_pos, inf]; exact Nat.le_refl _⟩

theorem div_zero {y : Nat} (hy : y < 9218868437227405312) (hy0 : 0 < y) : double.div 0 y = some 0 := by
  have hn := mg_pos hy0
  have hn' : mg y ≠ 0 := by omega
  unfold Format.div
  rw [read_fin hy, read_zero]
  simp only [Datum.quotient, if_neg hn', Option.map_some, Format.write, Bool.xor_self, Nat.zero_shiftLeft, Nat.zero_div, Nat.zero_mod]
  rfl

theorem add_nn {a b : Nat} (ha : a ≤ 9218868437227405312) (hb : b ≤ 9218868437227405312) : ∃ u, double.add a b = some u ∧ u ≤ 9218868437227405312 := by
  unfold Format.add
  rcases Nat.lt_or_eq_of_le ha with ha | rfl
  · rcases Nat.lt_or_eq_of_le hb with hb | rfl
    · rw [read_fin ha, read_fin hb]
      simp only [Datum.sum, Option.map_some, Format.write, signed, Bool.false_eq_true, if_false, Bool.and_self]
      refine ⟨_, rfl, ?_⟩
      generalize (mg a <<< _ : Nat) = A
      generalize (mg b <<< _ : Nat) = B
      have h1 : (if (A : Int) + (B : Int) = 0 then false else decide ((A : Int) + (B : Int) < 0)) = false := by
        split
        · rfl
        · exact decide_eq_false (by omega)
      rw [h1]
      exact nearest_nn _ _
    · rw [read_fin ha, read_inf]
      exact ⟨_, rfl, by decide⟩
  · rcases Nat.lt_or_eq_of_le hb with hb | rfl
    · rw [read_fin hb, read_inf]
      exact ⟨_, rfl, by decide⟩
    · rw [read_inf]
      exact ⟨_, rfl, by decide⟩

theorem mul_zero : double.mul 0 0 = some 0 := by decide
theorem add_zero : double.add 0 0 = some 0 := by decide

/-- The expected count: a finite word above zero; not above float64(c) where K*w ≤ c*W. -/
theorem expected {K w W : Nat} (hK : 0 < K) (hw : 0 < w) (hW : 0 < W) (hW2 : W ≤ 9007199254740992) (hKw : K * w ≤ 9007199254740992) :
    ∃ e, double.mul (fl K) (fl w) = some (fl (K * w)) ∧ double.div (fl (K * w)) (fl W) = some e ∧ 0 < e ∧ e < 9218868437227405312 ∧
      (∀ c, c ≤ 9007199254740992 → K * w ≤ c * W → e ≤ fl c) ∧ (∀ c, c ≤ 9007199254740992 → c * W ≤ K * w → fl c ≤ e) := by
  have hKw0 : 0 < K * w := Nat.mul_pos hK hw
  have hK2 : K ≤ 9007199254740992 := Nat.le_trans (Nat.le_mul_of_pos_right K hw) hKw
  have hw2 : w ≤ 9007199254740992 := Nat.le_trans (Nat.le_mul_of_pos_left w hK) hKw
  obtain ⟨e, h1, h2, h3⟩ := div_spec (fl_fin hKw) (fl_fin hW2) (fl_pos hKw0 hKw) (fl_pos hW hW2)
  have hVx := fl_V hKw
  have hVw := fl_V hW2
  rw [hVx, hVw] at h3
  have hT := T_eq
  have hTT : 9007199254740992 ≤ 2 ^ T := by
    have : 2 ^ 53 ≤ 2 ^ T := Nat.pow_le_pow_right (by omega) (by omega)
    have e53 : (2 : Nat) ^ 53 = 9007199254740992 := by decide
    rw [e53] at this; exact this
  refine ⟨e, mul_fl hK hw hK2 hw2 hKw, h1, ?_, ?_, ?_, ?_⟩
  · have := (h3 1 (by omega)).2 ?_
    · omega
    · have v1 : V 1 = 1 := rfl
      rw [v1, Nat.one_mul]
      apply Nat.mul_le_mul_right
      calc W ≤ 2 ^ T := Nat.le_trans hW2 hTT
        _ ≤ K * w * 2 ^ T := Nat.le_mul_of_pos_left _ hKw0
  · have := (h3 (fl (K * w)) (fl_fin hKw)).1 ?_
    · exact Nat.lt_of_le_of_lt this (fl_fin hKw)
    · rw [hVx]
      apply Nat.mul_le_mul_left
      exact Nat.le_mul_of_pos_left _ hW
  · intro c hc h
    refine (h3 (fl c) (fl_fin hc)).1 ?_
    rw [fl_V hc]
    calc K * w * 2 ^ T * 2 ^ T ≤ c * W * 2 ^ T * 2 ^ T := Nat.mul_le_mul_right _ (Nat.mul_le_mul_right _ h)
      _ = c * 2 ^ T * (W * 2 ^ T) := by simp only [Nat.mul_assoc, Nat.mul_left_comm]
  · intro c hc h
    refine (h3 (fl c) (fl_fin hc)).2 ?_
    rw [fl_V hc]
    calc c * 2 ^ T * (W * 2 ^ T) = c * W * 2 ^ T * 2 ^ T := by simp only [Nat.mul_assoc, Nat.mul_left_comm]
      _ ≤ K * w * 2 ^ T * 2 ^ T := Nat.mul_le_mul_right _ (Nat.mul_le_mul_right _ h)

/-- One round of Weighted's last loop, where the products are whole numbers up to 2^53: no operation is invalid; what is added is not below zero; where the count is not below its share, count over expected is not below one. -/
theorem bounds_step {K w W c : Nat} (hK : 0 < K) (hw : 0 < w) (hW : 0 < W) (hW2 : W ≤ 9007199254740992) (hKw : K * w ≤ 9007199254740992) (hc : c ≤ 9007199254740992) :
    ∃ e q d dd t, double.mul (fl K) (fl w) = some (fl (K * w)) ∧ double.div (fl (K * w)) (fl W) = some e ∧ double.div (fl c) e = some q ∧ double.sub (fl c) e = some d ∧ double.mul d d = some dd ∧ double.div dd e = some t ∧
      q ≤ 9218868437227405312 ∧ t ≤ 9218868437227405312 ∧ (K * w ≤ c * W → 4607182418800017408 ≤ q) := by
  obtain ⟨e, h1, h2, he0, he, h3, _⟩ := expected hK hw hW hW2 hKw
  obtain ⟨d, h5, s, m, p, hd⟩ := sub_spec (fl_fin hc) he
  obtain ⟨dd, h6, h7⟩ := mul_self hd
  obtain ⟨t, h8, h9⟩ := div_nn h7 he he0
  rcases Nat.eq_zero_or_pos c with rfl | hc0
  · refine ⟨e, 0, d, dd, t, h1, h2, div_zero he he0, h5, h6, h8, by omega, h9, fun h => ?_⟩
    have := Nat.mul_pos hK hw
    omega
  · obtain ⟨q, g1, g2, g3⟩ := div_spec (fl_fin hc) he (fl_pos hc0 hc) he0
    refine ⟨e, q, d, dd, t, h1, h2, g1, h5, h6, h8, g2, h9, fun h => ?_⟩
    refine (g3 4607182418800017408 (by omega)).2 ?_
    rw [V_one, Nat.mul_comm]
    exact Nat.mul_le_mul_right _ (V_le (h3 c hc h))

/-- The same round where the count IS its share: all is exact. -/
theorem perfect_step {K w W c : Nat} (hK : 0 < K) (hw : 0 < w) (hW : 0 < W) (hW2 : W ≤ 9007199254740992) (hKw : K * w ≤ 9007199254740992) (hc : c ≤ 9007199254740992) (hcW : c * W = K * w) :
    double.mul (fl K) (fl w) = some (fl (K * w)) ∧ double.div (fl (K * w)) (fl W) = some (fl c) ∧ double.div (fl c) (fl c) = some 4607182418800017408 ∧ double.sub (fl c) (fl c) = some 0 ∧ double.mul 0 0 = some 0 ∧ double.div 0 (fl c) = some 0 := by
  obtain ⟨e, h1, h2, he0, he, h3, h4⟩ := expected hK hw hW hW2 hKw
  have ee : e = fl c := Nat.le_antisymm (h3 c hc (Nat.le_of_eq hcW.symm)) (h4 c hc (Nat.le_of_eq hcW))
  subst ee
  obtain ⟨q, g1, g2, g3⟩ := div_spec he he he0 he0
  have hq : q = 4607182418800017408 := by
    have hv : V (fl c) * 2 ^ T = V 4607182418800017408 * V (fl c) := by rw [V_one, Nat.mul_comm]
    exact Nat.le_antisymm ((g3 _ (by omega)).1 (Nat.le_of_eq hv)) ((g3 _ (by omega)).2 (Nat.le_of_eq hv.symm))
  subst hq
  exact ⟨h1, h2, g1, sub_self he, mul_zero, div_zero he he0⟩
end Fl
end Go.Proofs.Qxb6600086a
