/-
  isNameComponent (38): it computes the reader.
-/
import Derived.Test.Qxb6600023aLeaves
namespace Go.Proofs.Qxb6600023a
open Go.RowKit

/-- The reader from state st on what is left behind place k. -/
def rd (s : ByteArray) (st k : Nat) : Bool := Gram.acc st (s.data.toList.drop k)

theorem rd_al {s : ByteArray} {j : Nat} (h : j < s.size) (ha : alB s[j] = true) (st : Nat) : rd s st j = rd s 1 (j + 1) := by
  unfold rd; rw [drop_at s j h]; exact Gram.acc_alnum ha st _
theorem rd0_no {s : ByteArray} {j : Nat} (h : j < s.size) (ha : alB s[j] = false) : rd s 0 j = false := by
  unfold rd; rw [drop_at s j h]; exact Gram.acc0_other ha _
theorem rd0_end {s : ByteArray} {j : Nat} (h : s.size ≤ j) : rd s 0 j = false := by
  unfold rd; rw [drop_end s j h]; rfl
theorem rd1_end {s : ByteArray} {j : Nat} (h : s.size ≤ j) : rd s 1 j = true := by
  unfold rd; rw [drop_end s j h]; rfl
theorem rd2_end {s : ByteArray} {j : Nat} (h : s.size ≤ j) : rd s 2 j = rd s 0 j := by
  unfold rd; rw [drop_end s j h]; rfl
theorem rd3_end {s : ByteArray} {j : Nat} (h : s.size ≤ j) : rd s 3 j = rd s 0 j := by
  unfold rd; rw [drop_end s j h]; rfl
theorem rd1_dot {s : ByteArray} {j : Nat} (h : j < s.size) (ha : (s[j].toNat : Int) = 46) : rd s 1 j = rd s 0 (j + 1) := by
  have e : s[j].toNat = 46 := by omega
  unfold rd; rw [drop_at s j h]; simp [Gram.acc, e, Gram.al46]
theorem rd1_low {s : ByteArray} {j : Nat} (h : j < s.size) (ha : (s[j].toNat : Int) = 95) : rd s 1 j = rd s 2 (j + 1) := by
  have e : s[j].toNat = 95 := by omega
  unfold rd; rw [drop_at s j h]; simp [Gram.acc, e, Gram.al95]
theorem rd2_low {s : ByteArray} {j : Nat} (h : j < s.size) (ha : (s[j].toNat : Int) = 95) : rd s 2 j = rd s 0 (j + 1) := by
  have e : s[j].toNat = 95 := by omega
  unfold rd; rw [drop_at s j h]; simp [Gram.acc, e, Gram.al95]
theorem rd2_no {s : ByteArray} {j : Nat} (h : j < s.size) (ha : (s[j].toNat : Int) ≠ 95) : rd s 2 j = rd s 0 j := by
  unfold rd; rw [drop_at s j h]; exact Gram.acc2_to0 (by omega) _
theorem rd1_dash {s : ByteArray} {j : Nat} (h : j < s.size) (ha : (s[j].toNat : Int) = 45) : rd s 1 j = rd s 3 j := by
  have e : s[j].toNat = 45 := by omega
  unfold rd; rw [drop_at s j h]; simp [Gram.acc, e, Gram.al45]
theorem rd3_dash {s : ByteArray} {j : Nat} (h : j < s.size) (ha : (s[j].toNat : Int) = 45) : rd s 3 j = rd s 3 (j + 1) := by
  have e : s[j].toNat = 45 := by omega
  unfold rd; rw [drop_at s j h]; simp [Gram.acc, e, Gram.al45]
theorem rd3_no {s : ByteArray} {j : Nat} (h : j < s.size) (ha : (s[j].toNat : Int) ≠ 45) : rd s 3 j = rd s 0 j := by
  unfold rd; rw [drop_at s j h]; exact Gram.acc3_to0 (by omega) _
theorem rd1_no {s : ByteArray} {j : Nat} (h : j < s.size) (ha : alB s[j] = false) (a : (s[j].toNat : Int) ≠ 46) (b : (s[j].toNat : Int) ≠ 95) (c : (s[j].toNat : Int) ≠ 45) : rd s 1 j = false := by
  have a' : s[j].toNat ≠ 46 := by omega
  have b' : s[j].toNat ≠ 95 := by omega
  have c' : s[j].toNat ≠ 45 := by omega
  have ha' : Gram.alnum s[j].toNat = false := ha
  unfold rd; rw [drop_at s j h]; simp [Gram.acc, ha', a', b', c']

set_option maxHeartbeats 1000000 in
theorem isName_any (s : ByteArray) (w : World) (hs : s.size ≤ maxLen) (R : Bool) (hR : Hid (rd s 0 0 = R)) :
    Calls Try.prog 38 #[.string s] w fun e w' => e = .returned (.bool R) ∧ w' = w := by
  unfold maxLen at hs
  go_enter Try.func38, Try.ntmps38
  go_wp2
  go_loop [3] (fun i => ∃ k : Nat, k ≤ s.size ∧ i = .int .i64 k ∧ Hid (rd s 0 k = R)) (fun i => s.size - (intOf i).toNat)
  case atStart => exact ⟨0, Nat.zero_le _, rfl, hR⟩
  case round =>
    obtain ⟨k, hk, rfl, hd⟩ := hrel
    go_wp2
    go_loop [3] (fun i => ∃ j : Nat, k ≤ j ∧ j ≤ s.size ∧ i = .int .i64 j ∧ Hid ((j = k → rd s 0 j = R) ∧ (j ≠ k → rd s 1 j = R))) (fun i => s.size - (intOf i).toNat)
    case atStart => exact ⟨k, Nat.le_refl _, hk, rfl, fun _ => hd, fun h => absurd rfl h⟩
    case round =>
      obtain ⟨j, hkj, hj, rfl, hd2⟩ := hrel
      have yes : j < s.size → (h : j < s.size) → alB s[j] = true → Hid ((j + 1 = k → rd s 0 (j + 1) = R) ∧ (j + 1 ≠ k → rd s 1 (j + 1) = R)) := fun _ h ha =>
        ⟨fun e => by omega, fun _ => by
          by_cases e : j = k
          · rw [← rd_al h ha 0]; exact hd2.out.1 e
          · rw [← rd_al h ha 1]; exact hd2.out.2 e⟩
      have Yes : Hid (j < s.size → (h : j < s.size) → alB s[j] = true → Hid ((j + 1 = k → rd s 0 (j + 1) = R) ∧ (j + 1 ≠ k → rd s 1 (j + 1) = R))) := yes
      clear yes
      by_cases hlt : j < s.size
      · cases hl : lowerB s[j]
        · cases hdg : digitB s[j]
          · have ha : Hid (alB s[j] = false) := by show _ = _; rw [alB_eq, hl, hdg]; rfl
            by_cases hjk : j = k
            · have hf : R = false := by rw [← hd2.out.1 hjk]; exact rd0_no hlt ha.out
              subst hf
              subst hjk
              go_wp2_with (first | (go_at_call 48; refine (lower_any _ _).mono ?_; rintro e w' ⟨rfl, rfl⟩) | (go_at_call 49; refine (digit_any _ _).mono ?_; rintro e w' ⟨rfl, rfl⟩))
              go_ret
              exact ⟨rfl, rfl⟩
            · have h1 : Hid (rd s 1 j = R) := hd2.out.2 hjk
              have hjk' : k < j := by omega
              clear hd2
              by_cases h46 : (s[j].toNat : Int) = 46
              · have Hh46 : Hid ((s[j].toNat : Int) = 46) := h46
                have lh46 : 46 ≤ (s[j].toNat : Int) := by omega
                have uh46 : (s[j].toNat : Int) ≤ 46 := by omega
                clear h46
                go_wp2_with (first | (go_at_call 48; refine (lower_any _ _).mono ?_; rintro e w' ⟨rfl, rfl⟩) | (go_at_call 49; refine (digit_any _ _).mono ?_; rintro e w' ⟨rfl, rfl⟩))
                go_round
                case rel => exact ⟨j + 1, by omega, by go_num, by show _ = _; rw [← rd1_dot hlt Hh46.out]; exact h1⟩
                case measure => simp [intOf]; omega
              · by_cases h95 : (s[j].toNat : Int) = 95
                · have Hh95 : Hid ((s[j].toNat : Int) = 95) := h95
                  have lh95 : 95 ≤ (s[j].toNat : Int) := by omega
                  have uh95 : (s[j].toNat : Int) ≤ 95 := by omega
                  clear h95
                  by_cases hn : j + 1 < s.size
                  · by_cases h95' : (s[j + 1].toNat : Int) = 95
                    · have Hh95' : Hid ((s[j + 1].toNat : Int) = 95) := h95'
                      have lh95' : 95 ≤ (s[j + 1].toNat : Int) := by omega
                      have uh95' : (s[j + 1].toNat : Int) ≤ 95 := by omega
                      clear h95'
                      go_wp2_with (first | (go_at_call 48; refine (lower_any _ _).mono ?_; rintro e w' ⟨rfl, rfl⟩) | (go_at_call 49; refine (digit_any _ _).mono ?_; rintro e w' ⟨rfl, rfl⟩))
                      go_round
                      case rel => exact ⟨j + 2, by omega, by go_num, by show _ = _; rw [← rd2_low hn Hh95'.out, ← rd1_low hlt Hh95.out]; exact h1⟩
                      case measure => simp [intOf]; omega
                    · go_wp2_with (first | (go_at_call 48; refine (lower_any _ _).mono ?_; rintro e w' ⟨rfl, rfl⟩) | (go_at_call 49; refine (digit_any _ _).mono ?_; rintro e w' ⟨rfl, rfl⟩))
                      go_round
                      case rel => exact ⟨j + 1, by omega, by go_num, by show _ = _; rw [← rd2_no hn h95', ← rd1_low hlt Hh95.out]; exact h1⟩
                      case measure => simp [intOf]; omega
                  · go_wp2_with (first | (go_at_call 48; refine (lower_any _ _).mono ?_; rintro e w' ⟨rfl, rfl⟩) | (go_at_call 49; refine (digit_any _ _).mono ?_; rintro e w' ⟨rfl, rfl⟩))
                    go_round
                    case rel => exact ⟨j + 1, by omega, by go_num, by show _ = _; rw [← rd2_end (by omega), ← rd1_low hlt Hh95.out]; exact h1⟩
                    case measure => simp [intOf]; omega
                · by_cases h45 : (s[j].toNat : Int) = 45
                  · have Hh45 : Hid ((s[j].toNat : Int) = 45) := h45
                    have lh45 : 45 ≤ (s[j].toNat : Int) := by omega
                    have uh45 : (s[j].toNat : Int) ≤ 45 := by omega
                    clear h45
                    have h3 : Hid (rd s 3 j = R) := by show _ = _; rw [← rd1_dash hlt Hh45.out]; exact h1
                    go_wp2_with (first | (go_at_call 48; refine (lower_any _ _).mono ?_; rintro e w' ⟨rfl, rfl⟩) | (go_at_call 49; refine (digit_any _ _).mono ?_; rintro e w' ⟨rfl, rfl⟩))
                    go_loop [3] (fun i => ∃ m : Nat, j ≤ m ∧ m ≤ s.size ∧ i = .int .i64 m ∧ Hid (rd s 3 m = R)) (fun i => s.size - (intOf i).toNat)
                    case atStart => exact ⟨j, by omega, by omega, rfl, h3⟩
                    case round =>
                      obtain ⟨m, hjm, hm, rfl, hd3⟩ := hrel
                      clear Hh45 lh45 uh45 h46 h95
                      by_cases hml : m < s.size
                      · by_cases hm45 : (s[m].toNat : Int) = 45
                        · have Hhm45 : Hid ((s[m].toNat : Int) = 45) := hm45
                          have lhm45 : 45 ≤ (s[m].toNat : Int) := by omega
                          have uhm45 : (s[m].toNat : Int) ≤ 45 := by omega
                          clear hm45
                          go_wp2
                          go_round
                          case rel => exact ⟨m + 1, by omega, by omega, by go_num, by show _ = _; rw [← rd3_dash hml Hhm45.out]; exact hd3⟩
                          case measure => simp [intOf]; omega
                        · go_wp2
                          go_round
                          case rel => exact ⟨m, by omega, by go_num, by show _ = _; rw [← rd3_no hml hm45]; exact hd3⟩
                          case measure => simp [intOf]; omega
                      · go_wp2
                        go_round
                        case rel => exact ⟨m, by omega, by go_num, by show _ = _; rw [← rd3_end (by omega)]; exact hd3⟩
                        case measure => simp [intOf]; omega
                  · have hf : R = false := by rw [← h1.out]; exact rd1_no hlt ha.out h46 h95 h45
                    subst hf
                    go_wp2_with (first | (go_at_call 48; refine (lower_any _ _).mono ?_; rintro e w' ⟨rfl, rfl⟩) | (go_at_call 49; refine (digit_any _ _).mono ?_; rintro e w' ⟨rfl, rfl⟩))
                    go_ret
                    exact ⟨rfl, rfl⟩
          · have ha : Hid (alB s[j] = true) := by show _ = _; rw [alB_eq, hl, hdg]; rfl
            go_wp2_with (first | (go_at_call 48; refine (lower_any _ _).mono ?_; rintro e w' ⟨rfl, rfl⟩) | (go_at_call 49; refine (digit_any _ _).mono ?_; rintro e w' ⟨rfl, rfl⟩))
            go_round
            case rel => exact ⟨j + 1, by omega, by omega, by go_num, Yes.out hlt hlt ha.out⟩
            case measure => simp [intOf]; omega
        · have ha : Hid (alB s[j] = true) := by show _ = _; rw [alB_eq, hl]; rfl
          go_wp2_with (first | (go_at_call 48; refine (lower_any _ _).mono ?_; rintro e w' ⟨rfl, rfl⟩) | (go_at_call 49; refine (digit_any _ _).mono ?_; rintro e w' ⟨rfl, rfl⟩))
          go_round
          case rel => exact ⟨j + 1, by omega, by omega, by go_num, Yes.out hlt hlt ha.out⟩
          case measure => simp [intOf]; omega
      · by_cases hjk : j = k
        · have hf : R = false := by rw [← hd2.out.1 hjk]; exact rd0_end (by omega)
          subst hf
          subst hjk
          go_wp2_with (first | (go_at_call 48; refine (lower_any _ _).mono ?_; rintro e w' ⟨rfl, rfl⟩) | (go_at_call 49; refine (digit_any _ _).mono ?_; rintro e w' ⟨rfl, rfl⟩))
          go_ret
          exact ⟨rfl, rfl⟩
        · have hf : R = true := by rw [← hd2.out.2 hjk]; exact rd1_end (by omega)
          subst hf
          have hjk' : k < j := by omega
          go_wp2_with (first | (go_at_call 48; refine (lower_any _ _).mono ?_; rintro e w' ⟨rfl, rfl⟩) | (go_at_call 49; refine (digit_any _ _).mono ?_; rintro e w' ⟨rfl, rfl⟩))
          go_ret
          exact ⟨rfl, rfl⟩
end Go.Proofs.Qxb6600023a
