/-
  tooDeep (22), ZZTooDeep (17): on a text of n opening brackets and then n closing ones.
-/
import Derived.Test.Qxb6600129aProg
import Derived.WalkKit
import Derived.WalkSpells
import Derived.WalkLawsBesides
namespace Go.Proofs.Qxb6600129a
open Go.RowKit

/-- n opening brackets, then n closing ones. -/
def Nest (s : ByteArray) (n : Nat) : Prop :=
  s.size = 2 * n ∧ ∀ t (h : t < s.size), (t < n → s[t].toNat = 91 ∨ s[t].toNat = 123) ∧ (n ≤ t → s[t].toNat = 93 ∨ s[t].toNat = 125)

/-- What tooDeep answers. -/
def offOf (n : Nat) : Int := if 64 < n then 64 else 0
def deepOf (n : Nat) : Bool := decide (64 < n)

theorem out_deep {n : Nat} (h : 64 < n) : offOf n = 64 ∧ deepOf n = true := ⟨if_pos h, decide_eq_true h⟩
theorem out_plain {n : Nat} (h : ¬ 64 < n) : offOf n = 0 ∧ deepOf n = false := ⟨if_neg h, decide_eq_false h⟩
theorem ret_pair {a b : Int} {p q : Bool} (h1 : a = b) (h2 : p = q) : Ending.returned (.tuple #[.int .i64 a, .bool p]) = .returned (.tuple #[.int .i64 b, .bool q]) := by rw [h1, h2]

set_option maxHeartbeats 1000000 in
theorem deep_any (s : ByteArray) (n : Nat) (hn : n ≤ 65536) (hs : Hid (Nest s n)) (w : World) :
    Calls Try.prog 22 #[.string s] w fun e w' => e = .returned (.tuple #[.int .i64 (offOf n), .bool (deepOf n)]) ∧ w' = w := by
  have hsz : s.size ≤ 131072 := by rw [hs.out.1]; omega
  go_enter Try.func22, Try.ntmps22
  go_wp2
  go_loop [4, 5, 6] (fun d q i => ∃ k : Nat, k ≤ s.size ∧ i = .int .i64 k ∧ q = .bool false ∧ d = .int .i64 (min k (2 * n - k) : Nat) ∧ (n ≤ 64 ∨ k ≤ 64)) (fun _ _ i => s.size - (intOf i).toNat)
  case atStart => exact ⟨0, Nat.zero_le _, rfl, rfl, by simp, by omega⟩
  case round =>
    obtain ⟨k, hk, rfl, rfl, rfl, hor⟩ := hrel
    have hsize : Hid (s.size = 2 * n) := hs.out.1
    by_cases hlt : k < s.size
    · obtain ⟨h1, h2⟩ := hs.out.2 k hlt
      by_cases hkn : k < n
      · obtain ⟨d, hd⟩ : ∃ d, Hid (d = min k (2 * n - k)) := ⟨_, rfl⟩
        rw [← hd.out]
        have hd1 : d ≤ k := by rw [hd.out]; omega
        have hd2 : k ≤ d := by rw [hd.out]; omega
        have H1 : Hid (s[k].toNat = 91 ∨ s[k].toNat = 123) := h1 hkn
        clear h1 h2
        rcases H1.out with h | h
        · have l1 : 91 ≤ (s[k].toNat : Int) := by omega
          have l2 : (s[k].toNat : Int) ≤ 91 := by omega
          clear h
          by_cases h64 : k = 64
          · have l3 : 64 ≤ d := by omega
            have Hk : Hid (k = 64) := h64
            clear h64
            go_wp2
            go_ret2
            have o := out_deep (n := n) (by have := Hk.out; omega)
            exact ⟨ret_pair (by rw [o.1, Hk.out]; rfl) (by rw [o.2]), rfl⟩
          · have l3 : d < 64 := by omega
            go_wp2
            go_round
            case rel => exact ⟨k + 1, by omega, by go_num, rfl, by have := hd.out; go_num, by omega⟩
            case measure => simp [intOf]; omega
        · have l1 : 123 ≤ (s[k].toNat : Int) := by omega
          have l2 : (s[k].toNat : Int) ≤ 123 := by omega
          clear h
          by_cases h64 : k = 64
          · have l3 : 64 ≤ d := by omega
            have Hk : Hid (k = 64) := h64
            clear h64
            go_wp2
            go_ret2
            have o := out_deep (n := n) (by have := Hk.out; omega)
            exact ⟨ret_pair (by rw [o.1, Hk.out]; rfl) (by rw [o.2]), rfl⟩
          · have l3 : d < 64 := by omega
            go_wp2
            go_round
            case rel => exact ⟨k + 1, by omega, by go_num, rfl, by have := hd.out; go_num, by omega⟩
            case measure => simp [intOf]; omega
      · have h64 : n ≤ 64 := by omega
        obtain ⟨d, hd⟩ : ∃ d, Hid (d = min k (2 * n - k)) := ⟨_, rfl⟩
        rw [← hd.out]
        have hd1 : 1 ≤ d := by have := hsize.out; rw [hd.out]; omega
        have hd2 : d ≤ 64 := by rw [hd.out]; omega
        have H1 : Hid (s[k].toNat = 93 ∨ s[k].toNat = 125) := h2 (by omega)
        clear h1 h2
        rcases H1.out with h | h
        · have l1 : 93 ≤ (s[k].toNat : Int) := by omega
          have l2 : (s[k].toNat : Int) ≤ 93 := by omega
          clear h
          go_wp2
          go_round
          case rel => exact ⟨k + 1, by omega, by go_num, rfl, by have := hd.out; have := hsize.out; go_num, by omega⟩
          case measure => simp [intOf]; omega
        · have l1 : 125 ≤ (s[k].toNat : Int) := by omega
          have l2 : (s[k].toNat : Int) ≤ 125 := by omega
          clear h
          go_wp2
          go_round
          case rel => exact ⟨k + 1, by omega, by go_num, rfl, by have := hd.out; have := hsize.out; go_num, by omega⟩
          case measure => simp [intOf]; omega
    · have ho : ¬ 64 < n := by have := hsize.out; omega
      go_wp2
      go_ret2
      exact ⟨ret_pair (out_plain ho).1.symm (out_plain ho).2.symm, rfl⟩

set_option maxHeartbeats 400000 in
theorem zzdeep_any (s : ByteArray) (n : Nat) (hn : n ≤ 65536) (hs : Hid (Nest s n)) (w : World) :
    Calls Try.prog 17 #[.string s] w fun e w' => e = .returned (.tuple #[.int .i64 (offOf n), .bool (deepOf n)]) ∧ w' = w := by
  go_enter Try.func17, Try.ntmps17
  go_wp2_with (go_at_call 22; refine (deep_any _ n hn hs _).mono ?_; rintro e w' ⟨rfl, rfl⟩)
  go_ret2
  exact ⟨rfl, rfl⟩
end Go.Proofs.Qxb6600129a
