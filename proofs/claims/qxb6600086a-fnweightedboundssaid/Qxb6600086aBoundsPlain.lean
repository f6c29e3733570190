/-
  THE PLAIN LAW OF 'FnWeightedBounds': what Weighted's float operations come to where spreadSums says yes.
-/
import Derived.Test.Qxb6600086aWeighted
namespace Go.Proofs.Qxb6600086a
open Ieee

def eF (wt : Nat → Nat) (K W i : Nat) : Nat := (double.div (Fl.fl (K * wt i)) (Fl.fl W)).getD 0
def qF (c wt : Nat → Nat) (K W i : Nat) : Nat := (double.div (Fl.fl (c i)) (eF wt K W i)).getD 0
def dF (c wt : Nat → Nat) (K W i : Nat) : Nat := (double.sub (Fl.fl (c i)) (eF wt K W i)).getD 0
def sF (c wt : Nat → Nat) (K W i : Nat) : Nat := (double.mul (dF c wt K W i) (dF c wt K W i)).getD 0
def tF (c wt : Nat → Nat) (K W i : Nat) : Nat := (double.div (sF c wt K W i) (eF wt K W i)).getD 0
def PF (c wt : Nat → Nat) (K W : Nat) : Nat → Nat
  | 0 => 0
  | k + 1 => max (PF c wt K W k) (qF c wt K W k)
def CF (c wt : Nat → Nat) (K W : Nat) : Nat → Nat
  | 0 => 0
  | k + 1 => (double.add (CF c wt K W k) (tF c wt K W k)).getD 0

theorem steps {c wt : Nat → Nat} {n : Nat} (h : Good c wt n) (hK : 0 < S c n) {i : Nat} (hi : i < n) :
    double.mul (Fl.fl (S c n)) (Fl.fl (wt i)) = some (Fl.fl (S c n * wt i)) ∧ double.div (Fl.fl (S c n * wt i)) (Fl.fl (S wt n)) = some (eF wt (S c n) (S wt n) i) ∧
    double.div (Fl.fl (c i)) (eF wt (S c n) (S wt n) i) = some (qF c wt (S c n) (S wt n) i) ∧ double.sub (Fl.fl (c i)) (eF wt (S c n) (S wt n) i) = some (dF c wt (S c n) (S wt n) i) ∧
    double.mul (dF c wt (S c n) (S wt n) i) (dF c wt (S c n) (S wt n) i) = some (sF c wt (S c n) (S wt n) i) ∧ double.div (sF c wt (S c n) (S wt n) i) (eF wt (S c n) (S wt n) i) = some (tF c wt (S c n) (S wt n) i) ∧
    qF c wt (S c n) (S wt n) i ≤ 9218868437227405312 ∧ tF c wt (S c n) (S wt n) i ≤ 9218868437227405312 ∧ (S c n * wt i ≤ c i * S wt n → 4607182418800017408 ≤ qF c wt (S c n) (S wt n) i) := by
  obtain ⟨g1, g2, g3, g4⟩ := h
  have hW : 0 < S wt n := by have := S_le (f := wt) hi; have := g3 i hi; omega
  obtain ⟨e, q, d, dd, t, h1, h2, h3, h4, h5, h6, h7, h8, h9⟩ := Fl.bounds_step (c := c i) hK (g3 i hi) hW g2 (g4 hK i hi) (Nat.le_trans (S_le hi) g1)
  have e1 : eF wt (S c n) (S wt n) i = e := by unfold eF; rw [h2]; rfl
  have e2 : qF c wt (S c n) (S wt n) i = q := by unfold qF; rw [e1, h3]; rfl
  have e3 : dF c wt (S c n) (S wt n) i = d := by unfold dF; rw [e1, h4]; rfl
  have e4 : sF c wt (S c n) (S wt n) i = dd := by unfold sF; rw [e3, h5]; rfl
  have e5 : tF c wt (S c n) (S wt n) i = t := by unfold tF; rw [e4, e1, h6]; rfl
  rw [e1, e2, e3, e4, e5]
  exact ⟨h1, h2, h3, h4, h5, h6, h7, h8, h9⟩

theorem PF_le {c wt : Nat → Nat} {n : Nat} (h : Good c wt n) (hK : 0 < S c n) : ∀ k, k ≤ n → PF c wt (S c n) (S wt n) k ≤ 9218868437227405312
  | 0, _ => Nat.zero_le _
  | k + 1, hk => by
    have h1 := PF_le h hK k (by omega)
    have h2 := (steps h hK (show k < n by omega)).2.2.2.2.2.2.1
    exact Nat.max_le.2 ⟨h1, h2⟩
theorem CF_le {c wt : Nat → Nat} {n : Nat} (h : Good c wt n) (hK : 0 < S c n) : ∀ k, k ≤ n → CF c wt (S c n) (S wt n) k ≤ 9218868437227405312
  | 0, _ => Nat.zero_le _
  | k + 1, hk => by
    have h1 := CF_le h hK k (by omega)
    have h2 := (steps h hK (show k < n by omega)).2.2.2.2.2.2.2.1
    obtain ⟨u, hu, hu2⟩ := Fl.add_nn h1 h2
    show (double.add _ _).getD 0 ≤ _
    rw [hu]; exact hu2
theorem PF_ge {c wt : Nat → Nat} {K W : Nat} : ∀ {k n i : Nat}, i < k → k ≤ n → qF c wt K W i ≤ PF c wt K W k
  | 0, _, _, h, _ => by omega
  | k + 1, n, i, h, hk => by
    by_cases e : i = k
    · subst e; exact Nat.le_max_right _ _
    · exact Nat.le_trans (PF_ge (n := n) (show i < k by omega) (by omega)) (Nat.le_max_left _ _)

theorem flok_bounds {c wt : Nat → Nat} {n : Nat} (h : Good c wt n) (hK : 0 < S c n) :
    FlOk c wt n (S c n) (S wt n) (eF wt (S c n) (S wt n)) (qF c wt (S c n) (S wt n)) (dF c wt (S c n) (S wt n)) (sF c wt (S c n) (S wt n)) (tF c wt (S c n) (S wt n)) (PF c wt (S c n) (S wt n)) (CF c wt (S c n) (S wt n)) := by
  refine ⟨rfl, rfl, fun i hi => ?_⟩
  obtain ⟨h1, h2, h3, h4, h5, h6, h7, h8, _⟩ := steps h hK hi
  refine ⟨h1, h2, h3, h4, h5, h6, PF_le h hK i (by omega), h7, rfl, ?_⟩
  obtain ⟨u, hu, _⟩ := Fl.add_nn (CF_le h hK i (by omega)) h8
  show _ = some ((double.add _ _).getD 0)
  rw [hu]; rfl

/-- Some count is not below its share. -/
theorem share (c wt : Nat → Nat) (K W : Nat) : ∀ n, (∀ i, i < n → c i * W < K * wt i) → S c n * W + n ≤ K * S wt n
  | 0, _ => by simp [S]
  | n + 1, h => by
    have h1 := share c wt K W n (fun i hi => h i (by omega))
    have h2 := h n (by omega)
    simp only [S, Nat.add_mul, Nat.mul_add]
    omega
theorem some_share (c wt : Nat → Nat) {n : Nat} (hn : 0 < n) : ∃ i, i < n ∧ S c n * wt i ≤ c i * S wt n := by
  apply Classical.byContradiction
  intro hno
  have h := share c wt (S c n) (S wt n) n (fun i hi => by
    apply Nat.lt_of_not_le
    intro hle
    exact hno ⟨i, hi, hle⟩)
  omega

theorem peak_ge {c wt : Nat → Nat} {n : Nat} (h : Good c wt n) (hK : 0 < S c n) (hn : 0 < n) : 4607182418800017408 ≤ PF c wt (S c n) (S wt n) n := by
  obtain ⟨i, hi, hs⟩ := some_share c wt hn
  exact Nat.le_trans ((steps h hK hi).2.2.2.2.2.2.2.2 hs) (PF_ge hi (Nat.le_refl n))

/-- '>=' between words without a sign. -/
theorem geq_of_le {a b : Nat} (ha : a ≤ 9218868437227405312) (h : b ≤ a) : (double.order a b == some .gt || double.order a b == some .eq) = true := by
  rw [Fl.order_eq ha (Nat.le_trans h ha)]
  rcases Nat.lt_or_eq_of_le h with h | rfl
  · have : compare a b = .gt := by simp only [compare, compareOfLessAndEq]; rw [if_neg (by omega), if_neg (by omega)]
    rw [this]; rfl
  · have : compare b b = .eq := by simp only [compare, compareOfLessAndEq]; rw [if_neg (Nat.lt_irrefl _)]; rfl
    rw [this]; rfl

/-- Is x one of the first k counts? -/
def seen (c : Nat → Nat) (x : Nat) : Nat → Bool
  | 0 => false
  | k + 1 => seen c x k || c k == x
theorem seen_of {c : Nat → Nat} {x : Nat} : ∀ {n i : Nat}, i < n → c i = x → seen c x n = true
  | 0, _, h, _ => by omega
  | n + 1, i, h, he => by
    unfold seen
    by_cases e : i = n
    · subst e; simp [he]
    · rw [seen_of (show i < n by omega) he]; rfl
theorem MinMax.ends {c : Nat → Nat} {n lo hi : Nat} (h : MinMax c n n lo hi) : lo ≤ hi ∧ hi ≤ S c n ∧ seen c lo n = true ∧ seen c hi n = true := by
  obtain ⟨h1, ⟨i, hi1, hi2⟩, ⟨j, hj1, hj2⟩⟩ := h
  have a := h1 i hi1
  have b := S_le (f := c) hj1
  exact ⟨by omega, by omega, seen_of hi1 hi2, seen_of hj1 hj2⟩
end Go.Proofs.Qxb6600086a
