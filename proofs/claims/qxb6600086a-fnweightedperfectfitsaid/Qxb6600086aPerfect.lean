/-
  spreadPositive (13), spreadPerfect (14).
-/
import Derived.Test.Qxb6600086aSums
namespace Go.Proofs.Qxb6600086a
open Go.RowKit

set_option maxHeartbeats 400000 in
theorem positive_empty (a0 : Option Addr) (cap : Nat) (w : World) :
    Calls Try.prog 13 #[.slice a0 0 cap] w fun e w' => e = .returned (.bool false) ∧ w' = w := by
  go_enter Try.func13, Try.ntmps13
  go_wp2
  go_ret
  exact ⟨rfl, rfl⟩

/-- What spreadPositive hands back. -/
def PosOut (wt : Nat → Nat) (n : Nat) (w : World) (e : Ending) (w' : World) : Prop := ∃ r, e = .returned (.bool r) ∧ w' = w ∧ (r = true → ∀ i, i < n → 1 ≤ wt i)
theorem PosOut.no {wt : Nat → Nat} {n : Nat} {w : World} : PosOut wt n w (.returned (.bool false)) w := ⟨_, rfl, rfl, fun h => by cases h⟩
theorem PosOut.yes {wt : Nat → Nat} {n : Nat} {w : World} (h : ∀ i, i < n → 1 ≤ wt i) : PosOut wt n w (.returned (.bool true)) w := ⟨_, rfl, rfl, fun _ => h⟩

set_option maxHeartbeats 400000 in
theorem positive_any (b off n cap : Nat) (wt : Nat → Nat) (w : World) (hn0 : 0 < n) (hn : n ≤ 65536) (hwt : Seg w b off n wt) :
    Calls Try.prog 13 #[.slice (some ⟨b, off, none⟩) n cap] w (PosOut wt n w) := by
  have hz : ((n : Int) == 0) = false := beq_eq_false_iff_ne.2 (by omega)
  go_enter Try.func13, Try.ntmps13
  go_wp2
  go_loop [3] (fun i => ∃ k : Nat, k ≤ n ∧ i = .int .i64 k ∧ Hid (∀ i, i < k → 1 ≤ wt i)) (fun i => n - (intOf i).toNat)
  case atStart => exact ⟨0, Nat.zero_le _, rfl, fun i hi => by omega⟩
  case round =>
    obtain ⟨k, hk, rfl, hp⟩ := hrel
    by_cases hlt : k < n
    · have hcell := hwt k hlt
      by_cases h0 : wt k = 0
      · have h00 : ((wt k : Int) == 0) = true := beq_iff_eq.2 (by omega)
        clear h0
        go_wp2
        go_ret
        exact PosOut.no
      · have h00 : ((wt k : Int) == 0) = false := beq_eq_false_iff_ne.2 (by omega)
        have hp' : Hid (∀ i, i < k + 1 → 1 ≤ wt i) := fun i hi => by
          by_cases e : i = k
          · subst e; omega
          · exact hp.out i (by omega)
        clear h0
        go_wp2
        go_round
        case rel => exact ⟨k + 1, by omega, by go_num, hp'⟩
        case measure => simp [intOf]; omega
    · have e : k = n := by omega
      subst e
      go_wp2
      go_ret
      exact PosOut.yes hp.out

/-- What spreadPerfect vouches for. -/
def Fits (wt : Nat → Nat) (n m : Nat) : Prop := S wt n ≤ 9007199254740992 ∧ ∀ i, i < n → m * S wt n * wt i ≤ 9007199254740992
/-- What spreadPerfect hands back. -/
def PerfOut (wt : Nat → Nat) (n m : Nat) (w : World) (e : Ending) (w' : World) : Prop := ∃ r, e = .returned (.bool r) ∧ w' = w ∧ (r = true → Fits wt n m)
theorem PerfOut.no {wt : Nat → Nat} {n m : Nat} {w : World} : PerfOut wt n m w (.returned (.bool false)) w := ⟨_, rfl, rfl, fun h => by cases h⟩
theorem PerfOut.yes {wt : Nat → Nat} {n m : Nat} {w : World} (h : Fits wt n m) : PerfOut wt n m w (.returned (.bool true)) w := ⟨_, rfl, rfl, fun _ => h⟩

set_option maxHeartbeats 1000000 in
theorem perfect_any (b off n cap m : Nat) (wt : Nat → Nat) (w : World) (hn0 : 0 < n) (hn : n ≤ 65536) (hwt : Seg w b off n wt) (hpos : Hid (∀ i, i < n → 1 ≤ wt i)) :
    Calls Try.prog 14 #[.slice (some ⟨b, off, none⟩) n cap, .int .u64 (m : Int)] w (PerfOut wt n m w) := by
  go_enter Try.func14, Try.ntmps14
  go_wp2
  go_loop [5, 6, 7] (fun t x i => ∃ j mx : Nat, j ≤ n ∧ i = .int .i64 j ∧ t = .int .u64 (S wt j : Int) ∧ x = .int .u64 (mx : Int) ∧ S wt j ≤ 9007199254740992 ∧ mx ≤ 9007199254740992 ∧ Hid (∀ i, i < j → wt i ≤ mx)) (fun _ _ i => n - (intOf i).toNat)
  case atStart => exact ⟨0, 0, Nat.zero_le _, rfl, rfl, rfl, Nat.zero_le _, by omega, fun i hi => by omega⟩
  case round =>
    obtain ⟨j, mx, hj, rfl, rfl, rfl, hle, hm, hmx⟩ := hrel
    by_cases hlt : j < n
    · have hcell := hwt j hlt
      by_cases hgt : 9007199254740992 < wt j + S wt j
      · go_wp2
        go_ret
        exact PerfOut.no
      · by_cases hmw : mx < wt j
        · have hmx' : Hid (∀ i, i < j + 1 → wt i ≤ wt j) := fun i hi => by
            by_cases e : i = j
            · subst e; exact Nat.le_refl _
            · have := hmx.out i (by omega); omega
          go_wp2
          go_round
          case rel => exact ⟨j + 1, wt j, by omega, by go_num, by simp only [S]; go_num, rfl, by simp only [S]; omega, by omega, hmx'⟩
          case measure => simp [intOf]; omega
        · have hmx' : Hid (∀ i, i < j + 1 → wt i ≤ mx) := fun i hi => by
            by_cases e : i = j
            · subst e; omega
            · exact hmx.out i (by omega)
          go_wp2
          go_round
          case rel => exact ⟨j + 1, mx, by omega, by go_num, by simp only [S]; go_num, rfl, by simp only [S]; omega, by omega, hmx'⟩
          case measure => simp [intOf]; omega
    · have e : j = n := by omega
      subst e
      have hm1 : 1 ≤ mx := Nat.le_trans (hpos.out 0 hn0) (hmx.out 0 hn0)
      obtain ⟨W, hW⟩ : ∃ W, Hid (W = S wt j) := ⟨_, rfl⟩
      have hW1 : 1 ≤ W := by rw [hW.out]; exact Nat.le_trans (hpos.out 0 hn0) (S_le hn0)
      have hW2 : W ≤ 9007199254740992 := by rw [hW.out]; exact hle
      rw [← hW.out]
      clear hle hlt
      have hz : ((W : Int) == 0) = false := beq_eq_false_iff_ne.2 (by omega)
      by_cases hq : (9007199254740992 : Int) / (W : Int) < (mx : Int)
      · go_wp2
        go_ret
        exact PerfOut.no
      · have hWm := quo_yes (K := W) (m := mx) (by omega) (by omega)
        have hWm1 : 1 ≤ W * mx := Nat.mul_pos hW1 hm1
        have hWi : ((W * mx : Nat) : Int) = (W : Int) * (mx : Int) := Int.natCast_mul _ _
        have hb1 : (W : Int) * (mx : Int) ≤ 9007199254740992 := by omega
        have hb2 : 1 ≤ (W : Int) * (mx : Int) := by omega
        obtain ⟨X, hX⟩ : ∃ X : Nat, Hid (X = W * mx) := ⟨_, rfl⟩
        have HWi : Hid ((X : Int) = (W : Int) * (mx : Int)) := by show _ = _; rw [hX.out]; exact hWi
        clear hWi hWm hWm1
        by_cases hq2 : (9007199254740992 : Int) / ((W : Int) * (mx : Int)) < (m : Int)
        · go_wp2
          go_ret
          exact PerfOut.no
        · have hfit : Hid (Fits wt j m) := by
            refine ⟨by rw [← hW.out]; exact hW2, fun i hi => ?_⟩
            have h1 := quo_yes (K := X) (m := m) (by have := HWi.out; omega) (by rw [HWi.out]; omega)
            rw [← hW.out]
            refine Nat.le_trans (Nat.mul_le_mul_left _ (hmx.out i hi)) ?_
            rw [hX.out] at h1
            calc m * W * mx = W * mx * m := by rw [Nat.mul_assoc, Nat.mul_comm]
              _ ≤ _ := h1
          go_wp2
          go_ret
          exact PerfOut.yes hfit.out
end Go.Proofs.Qxb6600086a
