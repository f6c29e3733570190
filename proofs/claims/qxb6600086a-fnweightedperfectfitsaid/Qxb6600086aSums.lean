/-
  zzBytes_FnWeightedBounds (7), zzBytes_FnWeightedPerfectFit (12), spreadSums (8).
-/
import Derived.Test.Qxb6600086aProg
import Derived.WalkKit
import Derived.WalkSpells
import Derived.WalkLawsBesides
namespace Go.Proofs.Qxb6600086a
open Go.RowKit

/-- The sum of the first k. -/
def S (f : Nat → Nat) : Nat → Nat
  | 0 => 0
  | k + 1 => S f k + f k

/-- The cells of a slice of n uint64 that begins at b, off. -/
def Seg (w : World) (b off n : Nat) (c : Nat → Nat) : Prop := ∀ i, i < n → w.cell? ⟨b, off + i, none⟩ = some (.int .u64 (c i : Int))

/-- What spreadSums vouches for. -/
def Good (c wt : Nat → Nat) (n : Nat) : Prop :=
  S c n ≤ 9007199254740992 ∧ S wt n ≤ 9007199254740992 ∧ (∀ i, i < n → 1 ≤ wt i) ∧ (0 < S c n → ∀ i, i < n → S c n * wt i ≤ 9007199254740992)

set_option maxHeartbeats 400000 in
theorem bytes7_any (a0 a1 : Option Addr) (n0 n1 c0 c1 : Nat) (w : World) (h0 : n0 ≤ maxLen) (h1 : n1 ≤ maxLen) :
    Calls Try.prog 7 #[.slice a0 n0 c0, .slice a1 n1 c1] w fun e w' => ∃ r, e = .returned (.bool r) ∧ w' = w := by
  unfold maxLen at h0 h1
  go_enter Try.func7, Try.ntmps7
  go_wp2
  all_goals go_ret
  all_goals exact ⟨_, rfl, rfl⟩

set_option maxHeartbeats 400000 in
theorem bytes12_any (a0 : Option Addr) (n0 c0 : Nat) (m : Int) (w : World) (h0 : n0 ≤ maxLen) :
    Calls Try.prog 12 #[.slice a0 n0 c0, .int .u64 m] w fun e w' => ∃ r, e = .returned (.bool r) ∧ w' = w := by
  unfold maxLen at h0
  go_enter Try.func12, Try.ntmps12
  go_wp2
  all_goals go_ret
  all_goals exact ⟨_, rfl, rfl⟩

set_option maxHeartbeats 400000 in
theorem sums_empty (a0 a1 : Option Addr) (n1 c0 c1 : Nat) (w : World) :
    Calls Try.prog 8 #[.slice a0 0 c0, .slice a1 n1 c1] w fun e w' => e = .returned (.tuple #[.bool false, .int .u64 0]) ∧ w' = w := by
  go_enter Try.func8, Try.ntmps8
  go_wp2
  go_ret2
  exact ⟨rfl, rfl⟩

set_option maxHeartbeats 400000 in
theorem sums_parting (a0 : Option Addr) (x1 : Addr) (n0 n1 c0 c1 : Nat) (w : World) (h0 : 0 < n0) (hn : n1 ≠ n0) :
    Calls Try.prog 8 #[.slice a0 n0 c0, .slice (some x1) n1 c1] w fun e w' => e = .returned (.tuple #[.bool false, .int .u64 0]) ∧ w' = w := by
  have hz : ((n0 : Int) == 0) = false := beq_eq_false_iff_ne.2 (by omega)
  have hne : ((n1 : Int) != (n0 : Int)) = true := by rw [bne_iff_ne]; omega
  go_enter Try.func8, Try.ntmps8
  go_wp2
  go_ret2
  exact ⟨rfl, rfl⟩

theorem S_mono {f : Nat → Nat} {k n : Nat} (h : k ≤ n) : S f k ≤ S f n := by
  induction n with
  | zero => have : k = 0 := by omega
            subst this; exact Nat.le_refl _
  | succ n ih =>
    by_cases e : k = n + 1
    · subst e; exact Nat.le_refl _
    · have := ih (by omega); simp only [S]; omega
theorem S_one (n : Nat) : S (fun _ => 1) n = n := by
  induction n with
  | zero => rfl
  | succ n ih => simp only [S, ih]
theorem S_le {f : Nat → Nat} {k n : Nat} (h : k < n) : f k ≤ S f n := by
  have := S_mono (f := f) (show k + 1 ≤ n by omega)
  simp only [S] at this; omega

/-- What spreadSums hands back. -/
def SumsOut (c wt : Nat → Nat) (n : Nat) (w : World) (e : Ending) (w' : World) : Prop :=
  ∃ ok keys, e = .returned (.tuple #[.bool ok, .int .u64 keys]) ∧ w' = w ∧ (ok = true → keys = (S c n : Int) ∧ Good c wt n)
theorem SumsOut.no {c wt : Nat → Nat} {n : Nat} {w : World} : SumsOut c wt n w (.returned (.tuple #[.bool false, .int .u64 0])) w := ⟨_, _, rfl, rfl, fun h => by cases h⟩
theorem SumsOut.yes {c wt : Nat → Nat} {n : Nat} {w : World} {keys : Int} (hk : keys = (S c n : Int)) (h : Good c wt n) : SumsOut c wt n w (.returned (.tuple #[.bool true, .int .u64 keys])) w := ⟨_, _, rfl, rfl, fun _ => ⟨hk, h⟩⟩

set_option maxHeartbeats 400000 in
theorem sums_nil (b off n cap : Nat) (c : Nat → Nat) (w : World) (hn0 : 0 < n) (hn : n ≤ 65536) (hc : Seg w b off n c) :
    Calls Try.prog 8 #[.slice (some ⟨b, off, none⟩) n cap, .slice none 0 0] w (SumsOut c (fun _ => 1) n w) := by
  have hz : ((n : Int) == 0) = false := beq_eq_false_iff_ne.2 (by omega)
  go_enter Try.func8, Try.ntmps8
  go_wp2
  go_loop [6, 7] (fun t i => ∃ k : Nat, k ≤ n ∧ i = .int .i64 k ∧ t = .int .u64 (S c k : Int) ∧ S c k ≤ 9007199254740992) (fun _ i => n - (intOf i).toNat)
  case atStart => exact ⟨0, Nat.zero_le _, rfl, rfl, Nat.zero_le _⟩
  case round =>
    obtain ⟨k, hk, rfl, rfl, hle⟩ := hrel
    by_cases hlt : k < n
    · have hcell := hc k hlt
      by_cases hgt : 9007199254740992 < c k + S c k
      · go_wp2
        go_ret2
        exact SumsOut.no
      · go_wp2
        go_round
        case rel => exact ⟨k + 1, by omega, by go_num, by simp only [S]; go_num, by simp only [S]; omega⟩
        case measure => simp [intOf]; omega
    · have e : k = n := by omega
      subst e
      have hgood : Hid (Good c (fun _ => 1) k) := ⟨hle, by rw [S_one]; omega, fun _ _ => Nat.le_refl _, fun _ _ _ => by simpa using hle⟩
      obtain ⟨K, hK⟩ : ∃ K, Hid (K = S c k) := ⟨_, rfl⟩
      have hle2 : K ≤ 9007199254740992 := by rw [hK.out]; exact hle
      rw [← hK.out]
      clear hle
      by_cases hK0 : 0 < K
      · have hq : 1 ≤ (9007199254740992 : Int) / (K : Int) := (Int.le_ediv_iff_mul_le (by omega)).2 (by omega)
        go_wp2
        go_ret2
        exact SumsOut.yes (by rw [hK.out]) hgood.out
      · go_wp2
        go_ret2
        exact SumsOut.yes (by rw [hK.out]) hgood.out

/-- What holds of the greatest weight so far. -/
def Mx (wt : Nat → Nat) (k m : Nat) : Prop := 1 ≤ m ∧ m ≤ 9007199254740992 ∧ ∀ i, i < k → 1 ≤ wt i ∧ wt i ≤ m
theorem Mx.start (wt : Nat → Nat) : Mx wt 0 1 := ⟨Nat.le_refl _, by omega, fun i h => by omega⟩
theorem Mx.keep {wt : Nat → Nat} {k m : Nat} (h : Mx wt k m) (h1 : 1 ≤ wt k) (h2 : wt k ≤ m) : Mx wt (k + 1) m :=
  ⟨h.1, h.2.1, fun i hi => by
    by_cases e : i = k
    · subst e; exact ⟨h1, h2⟩
    · exact h.2.2 i (by omega)⟩
theorem Mx.raise {wt : Nat → Nat} {k m : Nat} (h : Mx wt k m) (h1 : 1 ≤ wt k) (h2 : m < wt k) (h3 : wt k ≤ 9007199254740992) : Mx wt (k + 1) (wt k) :=
  ⟨h1, h3, fun i hi => by
    by_cases e : i = k
    · subst e; exact ⟨h1, Nat.le_refl _⟩
    · have := h.2.2 i (by omega); omega⟩
theorem Mx.good {c wt : Nat → Nat} {n m : Nat} (h : Mx wt n m) (h1 : S c n ≤ 9007199254740992) (h2 : S wt n ≤ 9007199254740992) (h3 : 0 < S c n → S c n * m ≤ 9007199254740992) : Good c wt n :=
  ⟨h1, h2, fun i hi => (h.2.2 i hi).1, fun h0 i hi => Nat.le_trans (Nat.mul_le_mul_left _ (h.2.2 i hi).2) (h3 h0)⟩

theorem quo_yes {K m : Nat} (h0 : 0 < K) (h1 : (m : Int) ≤ (9007199254740992 : Int) / (K : Int)) : K * m ≤ 9007199254740992 := by
  have h2 := (Int.le_ediv_iff_mul_le (by omega)).1 h1
  have h3 : ((K * m : Nat) : Int) = (m : Int) * (K : Int) := by rw [Int.natCast_mul, Int.mul_comm]
  omega

set_option maxHeartbeats 1000000 in
theorem sums_both (b off n cap b2 off2 cap2 : Nat) (c wt : Nat → Nat) (w : World) (hn0 : 0 < n) (hn : n ≤ 65536) (hc : Seg w b off n c) (hwt : Seg w b2 off2 n wt) :
    Calls Try.prog 8 #[.slice (some ⟨b, off, none⟩) n cap, .slice (some ⟨b2, off2, none⟩) n cap2] w (SumsOut c wt n w) := by
  have hz : ((n : Int) == 0) = false := beq_eq_false_iff_ne.2 (by omega)
  have hnn : ((n : Int) != (n : Int)) = false := by simp
  go_enter Try.func8, Try.ntmps8
  go_wp2
  go_loop [6, 7] (fun t i => ∃ k : Nat, k ≤ n ∧ i = .int .i64 k ∧ t = .int .u64 (S c k : Int) ∧ S c k ≤ 9007199254740992) (fun _ i => n - (intOf i).toNat)
  case atStart => exact ⟨0, Nat.zero_le _, rfl, rfl, Nat.zero_le _⟩
  case round =>
    obtain ⟨k, hk, rfl, rfl, hle⟩ := hrel
    by_cases hlt : k < n
    · have hcell := hc k hlt
      by_cases hgt : 9007199254740992 < c k + S c k
      · go_wp2
        go_ret2
        exact SumsOut.no
      · go_wp2
        go_round
        case rel => exact ⟨k + 1, by omega, by go_num, by simp only [S]; go_num, by simp only [S]; omega⟩
        case measure => simp [intOf]; omega
    · have e : k = n := by omega
      subst e
      obtain ⟨K, hK⟩ : ∃ K, Hid (K = S c k) := ⟨_, rfl⟩
      have hle2 : K ≤ 9007199254740992 := by rw [hK.out]; exact hle
      rw [← hK.out]
      clear hle hk hlt
      go_wp2
      go_loop [9, 10, 11] (fun t x i => ∃ j m : Nat, j ≤ k ∧ i = .int .i64 j ∧ t = .int .u64 (S wt j : Int) ∧ x = .int .u64 (m : Int) ∧ S wt j ≤ 9007199254740992 ∧ m ≤ 9007199254740992 ∧ Hid (Mx wt j m)) (fun _ _ i => k - (intOf i).toNat)
      case atStart => exact ⟨0, 1, Nat.zero_le _, rfl, rfl, rfl, Nat.zero_le _, by omega, Mx.start wt⟩
      case round =>
        obtain ⟨j, m, hj, rfl, rfl, rfl, hle, hm, hmx⟩ := hrel
        by_cases hlt : j < k
        · have hcell := hwt j hlt
          by_cases h0 : wt j = 0
          · have h00 : ((wt j : Int) == 0) = true := beq_iff_eq.2 (by omega)
            clear h0
            go_wp2
            go_ret2
            exact SumsOut.no
          · have h00 : ((wt j : Int) == 0) = false := beq_eq_false_iff_ne.2 (by omega)
            by_cases hgt : 9007199254740992 < wt j + S wt j
            · go_wp2
              go_ret2
              exact SumsOut.no
            · by_cases hmw : m < wt j
              · go_wp2
                go_round
                case rel => exact ⟨j + 1, wt j, by omega, by go_num, by simp only [S]; go_num, rfl, by simp only [S]; omega, by omega, hmx.out.raise (by omega) hmw (by omega)⟩
                case measure => simp [intOf]; omega
              · go_wp2
                go_round
                case rel => exact ⟨j + 1, m, by omega, by go_num, by simp only [S]; go_num, rfl, by simp only [S]; omega, by omega, hmx.out.keep (by omega) (by omega)⟩
                case measure => simp [intOf]; omega
        · have e : j = k := by omega
          subst e
          have hgood : Hid ((0 < S c j → S c j * m ≤ 9007199254740992) → Good c wt j) := fun h => hmx.out.good (by rw [← hK.out]; exact hle2) hle h
          by_cases hK0 : 0 < K
          · by_cases hq : (9007199254740992 : Int) / (K : Int) < (m : Int)
            · go_wp2
              go_ret2
              exact SumsOut.no
            · go_wp2
              go_ret2
              exact SumsOut.yes (by rw [hK.out]) (hgood.out fun _ => by rw [← hK.out]; exact quo_yes hK0 (by omega))
          · go_wp2
            go_ret2
            exact SumsOut.yes (by rw [hK.out]) (hgood.out fun h => by rw [← hK.out] at h; exact absurd h hK0)
end Go.Proofs.Qxb6600086a
