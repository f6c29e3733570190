/-
  THE LEAVES: b1Alnum (39), isLower (48), isDigit (49), zzBytes (24), b1GoodSeparator (40).
-/
import Derived.Test.Qxb6600023aProg
import Derived.Test.Qxb6600023aPlain
import Derived.WalkKit
import Derived.WalkSpells
import Derived.WalkLawsBesides
namespace Go.Proofs.Qxb6600023a
open Go.RowKit

def lowerB (b : UInt8) : Bool := decide (97 ≤ b.toNat) && decide (b.toNat ≤ 122)
def digitB (b : UInt8) : Bool := decide (48 ≤ b.toNat) && decide (b.toNat ≤ 57)
def alB (b : UInt8) : Bool := Gram.alnum b.toNat
theorem alB_eq (b : UInt8) : alB b = (lowerB b || digitB b) := rfl
theorem ret_bool {a b : Bool} (h : a = b) : Ending.returned (.bool a) = .returned (.bool b) := by rw [h]

set_option maxHeartbeats 400000 in
theorem lower_any (b : UInt8) (w : World) :
    Calls Try.prog 48 #[.int .u8 (b.toNat : Int)] w fun e w' => e = .returned (.bool (lowerB b)) ∧ w' = w := by
  go_enter Try.func48, Try.ntmps48
  go_wp2
  all_goals go_ret
  all_goals refine ⟨ret_bool ?_, rfl⟩
  all_goals rw [Bool.eq_iff_iff]
  all_goals simp [lowerB]
  all_goals omega

set_option maxHeartbeats 400000 in
theorem digit_any (b : UInt8) (w : World) :
    Calls Try.prog 49 #[.int .u8 (b.toNat : Int)] w fun e w' => e = .returned (.bool (digitB b)) ∧ w' = w := by
  go_enter Try.func49, Try.ntmps49
  go_wp2
  all_goals go_ret
  all_goals refine ⟨ret_bool ?_, rfl⟩
  all_goals rw [Bool.eq_iff_iff]
  all_goals simp [digitB]
  all_goals omega

set_option maxHeartbeats 400000 in
theorem alnum_any (b : UInt8) (w : World) :
    Calls Try.prog 39 #[.int .u8 (b.toNat : Int)] w fun e w' => e = .returned (.bool (alB b)) ∧ w' = w := by
  go_enter Try.func39, Try.ntmps39
  go_wp2
  all_goals go_ret
  all_goals refine ⟨ret_bool ?_, rfl⟩
  all_goals rw [Bool.eq_iff_iff]
  all_goals simp [alB, Gram.alnum]
  all_goals omega

theorem take_snoc (s : ByteArray) (k : Nat) (h : k < s.size) : s.data.toList.take (k + 1) = s.data.toList.take k ++ [s[k]] := by
  rw [List.take_succ_eq_append_getElem (by simpa using h)]; rfl
theorem drop_at (s : ByteArray) (k : Nat) (h : k < s.size) : s.data.toList.drop k = s[k] :: s.data.toList.drop (k + 1) := by
  rw [List.drop_eq_getElem_cons (by simpa using h)]; rfl
theorem drop_end (s : ByteArray) (k : Nat) (h : s.size ≤ k) : s.data.toList.drop k = [] :=
  List.drop_eq_nil_of_le (by simpa using h)

def dashes (s : ByteArray) (k : Nat) : Bool := (s.data.toList.take k).all (fun b => b.toNat == 45)
theorem dashes_zero (s : ByteArray) : dashes s 0 = true := by simp [dashes]
theorem dashes_step (s : ByteArray) (k : Nat) (h : k < s.size) (h1 : dashes s k = true) (h2 : (s[k].toNat : Int) = 45) : dashes s (k + 1) = true := by
  unfold dashes at *
  rw [take_snoc s k h, List.all_append, h1]
  have : s[k].toNat = 45 := by omega
  simp [this]
theorem good_no (s : ByteArray) (k : Nat) (h : k < s.size) (h2 : (s[k].toNat : Int) ≠ 45) (a : (s.data.toList == [46]) = false) (b : (s.data.toList == [95]) = false) (c : (s.data.toList == [95, 95]) = false) : Gram.good s.data.toList = false := by
  have hm : s[k] ∈ s.data.toList := by
    have := List.getElem_mem (l := s.data.toList) (n := k) (by simpa using h)
    exact this
  have : (s.data.toList.all (fun b => b.toNat == 45)) = false := by
    rw [List.all_eq_false]
    exact ⟨_, hm, by simp; omega⟩
  simp only [Gram.good, a, b, c, this]
  rfl
theorem good_yes (s : ByteArray) (h1 : dashes s s.size = true) (a : (s.data.toList == [46]) = false) (b : (s.data.toList == [95]) = false) (c : (s.data.toList == [95, 95]) = false) : Gram.good s.data.toList = decide (0 < s.size) := by
  unfold dashes at h1
  rw [List.take_of_length_le (by simp)] at h1
  simp only [Gram.good, a, b, c, h1]
  have : s.data.toList.length = s.size := by simp
  rw [this]
  by_cases h0 : s.size = 0
  · simp [h0]
  · have h2 : 0 < s.size := by omega
    simp [h0, h2]

set_option maxHeartbeats 400000 in
theorem good_any (s : ByteArray) (w : World) (hs : s.size ≤ maxLen) :
    Calls Try.prog 40 #[.string s] w fun e w' => e = .returned (.bool (Gram.good s.data.toList)) ∧ w' = w := by
  unfold maxLen at hs
  by_cases a : (s.data.toList == [46]) = true
  · have e : Gram.good s.data.toList = true := by simp only [Gram.good, a]; rfl
    have a' : s.toList = [46] := by rw [ByteArray.toList_eq]; simpa using a
    rw [e]; clear e a
    go_enter Try.func40, Try.ntmps40
    go_wp2
    go_ret
    exact ⟨rfl, rfl⟩
  by_cases b : (s.data.toList == [95]) = true
  · have e : Gram.good s.data.toList = true := by simp only [Gram.good, b]; simp
    have b' : s.toList = [95] := by rw [ByteArray.toList_eq]; simpa using b
    rw [e]; clear e a b
    go_enter Try.func40, Try.ntmps40
    go_wp2
    go_ret
    exact ⟨rfl, rfl⟩
  by_cases c : (s.data.toList == [95, 95]) = true
  · have e : Gram.good s.data.toList = true := by simp only [Gram.good, c]; simp
    have c' : s.toList = [95, 95] := by rw [ByteArray.toList_eq]; simpa using c
    rw [e]; clear e a b c
    go_enter Try.func40, Try.ntmps40
    go_wp2
    go_ret
    exact ⟨rfl, rfl⟩
  have a2 : (s.data.toList == [46]) = false := by simpa using a
  have b2 : (s.data.toList == [95]) = false := by simpa using b
  have c2 : (s.data.toList == [95, 95]) = false := by simpa using c
  have a1 : (s.toList == [46]) = false := by rw [ByteArray.toList_eq]; exact a2
  have b1 : (s.toList == [95]) = false := by rw [ByteArray.toList_eq]; exact b2
  have c1 : (s.toList == [95, 95]) = false := by rw [ByteArray.toList_eq]; exact c2
  have hno := fun k h h2 => good_no s k h h2 a2 b2 c2
  have hyes := fun h1 => good_yes s h1 a2 b2 c2
  have Hno : Hid (∀ (k : Nat) (h : k < s.size), (s[k].toNat : Int) ≠ 45 → Gram.good s.data.toList = false) := hno
  have Hyes : Hid (dashes s s.size = true → Gram.good s.data.toList = decide (0 < s.size)) := hyes
  clear a b c a2 b2 c2 hno hyes
  go_enter Try.func40, Try.ntmps40
  go_wp2
  go_loop [3] (fun i => ∃ k : Nat, k ≤ s.size ∧ i = .int .i64 k ∧ dashes s k = true) (fun i => s.size - (intOf i).toNat)
  case atStart => exact ⟨0, Nat.zero_le _, rfl, dashes_zero s⟩
  case round =>
    obtain ⟨k, hk, rfl, hd⟩ := hrel
    have Hd : Hid (dashes s k = true) := hd
    clear hd
    by_cases hlt : k < s.size
    · by_cases h45 : (s[k].toNat : Int) = 45
      · go_wp2
        go_round
        case rel => exact ⟨k + 1, by omega, by go_num, dashes_step s k hlt Hd.out h45⟩
        case measure => simp [intOf]; omega
      · go_wp2
        go_ret
        exact ⟨ret_bool (Hno.out k hlt h45).symm, rfl⟩
    · go_wp2
      go_ret
      have : k = s.size := by omega
      subst this
      exact ⟨ret_bool (Hyes.out Hd.out).symm, rfl⟩

set_option maxHeartbeats 400000 in
theorem bytes_any (s : ByteArray) (w : World) :
    Calls Try.prog 24 #[.string s] w fun e w' => e = .returned (.bool (decide (s.size ≤ 1048576))) ∧ w' = w := by
  by_cases h : s.size ≤ 1048576
  · rw [decide_eq_true h]
    go_enter Try.func24, Try.ntmps24
    go_wp2
    go_ret
    exact ⟨rfl, rfl⟩
  · rw [decide_eq_false h]
    go_enter Try.func24, Try.ntmps24
    go_wp2
    go_ret
    exact ⟨rfl, rfl⟩
end Go.Proofs.Qxb6600023a
