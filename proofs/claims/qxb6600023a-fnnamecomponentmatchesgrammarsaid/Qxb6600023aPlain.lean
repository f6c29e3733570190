/-
  THE PLAIN LAW OF 'FnNameComponentMatchesGrammar': no Go in sight. A four-state reader over the bytes; both Go functions compute it.
-/
namespace Go.Proofs.Qxb6600023a
namespace Gram

def alnum (n : Nat) : Bool := (97 ≤ n && n ≤ 122) || (48 ≤ n && n ≤ 57)

/-- The reader: state 0: a run of letters and digits must begin; 1: inside a run; 2: behind one '_'; 3: behind '-'. -/
def acc : Nat → List UInt8 → Bool
  | st, [] => st == 1
  | st, b :: l =>
    if alnum b.toNat then acc 1 l
    else if st == 1 then
      (if b.toNat == 46 then acc 0 l
       else if b.toNat == 95 then acc 2 l
       else if b.toNat == 45 then acc 3 l
       else false)
    else if st == 2 then (if b.toNat == 95 then acc 0 l else false)
    else if st == 3 then (if b.toNat == 45 then acc 3 l else false)
    else false

theorem acc_alnum {b : UInt8} (h : alnum b.toNat = true) (st : Nat) (l : List UInt8) : acc st (b :: l) = acc 1 l := by
  simp [acc, h]

theorem acc0_other {b : UInt8} (h : alnum b.toNat = false) (l : List UInt8) : acc 0 (b :: l) = false := by
  simp [acc, h]

theorem acc2_to0 {b : UInt8} (h : b.toNat ≠ 95) (l : List UInt8) : acc 2 (b :: l) = acc 0 (b :: l) := by
  simp [acc, h]

theorem acc3_to0 {b : UInt8} (h : b.toNat ≠ 45) (l : List UInt8) : acc 3 (b :: l) = acc 0 (b :: l) := by
  simp [acc, h]

theorem acc_nil0 : acc 0 [] = false := rfl
theorem acc_nil1 : acc 1 [] = true := rfl
theorem acc_nil2 : acc 2 [] = false := rfl
theorem acc_nil3 : acc 3 [] = false := rfl

/-- What is read ends on a letter or digit. -/
theorem acc_last : ∀ (l : List UInt8) (st : Nat), acc st l = true → l ≠ [] → ∃ b, l.getLast? = some b ∧ alnum b.toNat = true
  | [], _, _, h => absurd rfl h
  | [b], st, h, _ => by
    refine ⟨b, rfl, ?_⟩
    by_cases hb : alnum b.toNat = true
    · exact hb
    · have hb' : alnum b.toNat = false := by simpa using hb
      simp only [acc, hb'] at h
      repeat' split at h
      all_goals simp_all
  | b :: c :: l, st, h, _ => by
    have : ∃ st', acc st' (c :: l) = true := by
      rw [acc] at h
      repeat' split at h
      all_goals first | exact ⟨_, h⟩ | simp at h
    obtain ⟨st', h'⟩ := this
    obtain ⟨x, hx, hx'⟩ := acc_last (c :: l) st' h' (by simp)
    exact ⟨x, by simpa using hx, hx'⟩

/-- A good run of other bytes. -/
def good (r : List UInt8) : Bool :=
  r == [46] || r == [95] || r == [95, 95] || (r.all (fun b => b.toNat == 45) && r.length != 0)

theorem acc3_run : ∀ (r : List UInt8) (b : UInt8) (l : List UInt8), (∀ x ∈ r, alnum x.toNat = false) → alnum b.toNat = true →
    acc 3 (r ++ b :: l) = if r.all (fun x => x.toNat == 45) then acc 1 l else false
  | [], b, l, _, hb => by simp [acc_alnum hb]
  | x :: r, b, l, hr, hb => by
    have hx := hr x (by simp)
    have ih := acc3_run r b l (fun y hy => hr y (by simp [hy])) hb
    by_cases h45 : x.toNat = 45
    · simp [acc, h45, ih]
      simp [h45] at hx
      simp [hx]
    · simp [acc, hx, h45]

theorem acc0_run (r : List UInt8) (b : UInt8) (l : List UInt8) (hr : ∀ x ∈ r, alnum x.toNat = false) (hb : alnum b.toNat = true) :
    acc 0 (r ++ b :: l) = if r = [] then acc 1 l else false := by
  cases r with
  | nil => simp [acc_alnum hb]
  | cons x r => simp [acc0_other (hr x (by simp))]

theorem al95' : alnum 95 = false := by decide
theorem acc2_run (r : List UInt8) (b : UInt8) (l : List UInt8) (hr : ∀ x ∈ r, alnum x.toNat = false) (hb : alnum b.toNat = true) :
    acc 2 (r ++ b :: l) = if r = [] ∨ r = [95] then acc 1 l else false := by
  cases r with
  | nil => simp [acc_alnum hb]
  | cons x r =>
    have hx := hr x (by simp)
    by_cases h : x.toNat = 95
    · have hx2 : x = 95 := UInt8.toNat_inj.1 (by simpa using h)
      subst hx2
      have := acc0_run r b l (fun y hy => hr y (by simp [hy])) hb
      simp [acc, al95', this]
    · have hx2 : x ≠ 95 := fun e => h (by rw [e]; rfl)
      simp [acc, hx, h, hx2]

theorem al46 : alnum 46 = false := by decide
theorem al95 : alnum 95 = false := by decide
theorem al45 : alnum 45 = false := by decide

/-- A maximal run of other bytes ahead of a letter or digit: it is good, or all is refused. -/
theorem acc1_run (r : List UInt8) (b : UInt8) (l : List UInt8) (hr : ∀ x ∈ r, alnum x.toNat = false) (hb : alnum b.toNat = true) (hne : r ≠ []) :
    acc 1 (r ++ b :: l) = if good r then acc 1 (b :: l) else false := by
  cases r with
  | nil => exact absurd rfl hne
  | cons x r =>
    have hx := hr x (by simp)
    have hr' : ∀ y ∈ r, alnum y.toNat = false := fun y hy => hr y (by simp [hy])
    rw [acc_alnum hb]
    by_cases h46 : x.toNat = 46
    · have hx2 : x = 46 := UInt8.toNat_inj.1 (by simpa using h46)
      subst hx2
      have := acc0_run r b l hr' hb
      simp [acc, al46, this, good]
    · by_cases h95 : x.toNat = 95
      · have hx2 : x = 95 := UInt8.toNat_inj.1 (by simpa using h95)
        subst hx2
        have := acc2_run r b l hr' hb
        simp [acc, al95, this, good]
      · by_cases h45 : x.toNat = 45
        · have hx2 : x = 45 := UInt8.toNat_inj.1 (by simpa using h45)
          subst hx2
          have := acc3_run r b l hr' hb
          simp [acc, al45, this, good]
        · have e46 : x ≠ 46 := fun e => h46 (by rw [e]; rfl)
          have e95 : x ≠ 95 := fun e => h95 (by rw [e]; rfl)
          simp [acc, hx, h46, h95, h45, good, e46, e95]
end Gram
end Go.Proofs.Qxb6600023a
