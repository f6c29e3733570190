/-
  b1ComponentModel (26): it computes the reader too.
-/
import Derived.Test.Qxb6600023aIsName
namespace Go.Proofs.Qxb6600023a
open Go.RowKit

theorem rd_last {s : ByteArray} (h : 0 < s.size) (ha : alB (s[s.size - 1]) = false) : rd s 0 0 = false := by
  cases hr : rd s 0 0
  · rfl
  · unfold rd at hr
    simp only [List.drop_zero] at hr
    have hl : s.data.toList.length = s.size := by simp
    obtain ⟨b, hb, hal⟩ := Gram.acc_last _ _ hr (fun e => by rw [e] at hl; simp at hl; omega)
    have hlt : s.data.toList.length - 1 < s.data.toList.length := by omega
    rw [List.getLast?_eq_getElem?, List.getElem?_eq_getElem hlt] at hb
    have e : s.data.toList[s.data.toList.length - 1] = s[s.size - 1] := by
      have : s[s.size - 1] = s.data.toList[s.size - 1]'(by omega) := rfl
      rw [this]
      simp only [hl]
    have hb2 : b = s[s.size - 1] := by rw [← e]; simpa using hb.symm
    rw [hb2] at hal
    have : alB (s[s.size - 1]) = true := hal
    rw [this] at ha
    cases ha

/-- no byte from k up to m is a letter or digit -/
def Other (s : ByteArray) (k m : Nat) : Prop := ∀ t, k ≤ t → t < m → ∀ h : t < s.size, alB s[t] = false
theorem Other.start (s : ByteArray) (k : Nat) : Other s k k := fun t a b => by omega
theorem Other.step {s : ByteArray} {k m : Nat} (h : Other s k m) (hm : m < s.size) (ha : alB s[m] = false) : Other s k (m + 1) := fun t a b c => by
  by_cases e : t = m
  · subst e; exact ha
  · exact h t a (by omega) c

theorem run_bytes (s : ByteArray) (k m : Nat) (hkm : k ≤ m) (hm : m < s.size) :
    s.data.toList.drop k = (s.extract k m).data.toList ++ s[m] :: s.data.toList.drop (m + 1) := by
  rw [← drop_at s m hm]
  have e : (s.extract k m).data.toList = (s.data.toList.drop k).take (m - k) := by
    simp [ByteArray.data_extract, Array.toList_extract, List.extract]
  rw [e]
  conv => lhs; rw [← List.take_append_drop (m - k) (s.data.toList.drop k)]
  rw [List.drop_drop]
  congr 2
  omega

theorem run_other {s : ByteArray} {k m : Nat} (hm : m < s.size) (h : Other s k m) : ∀ x ∈ (s.extract k m).data.toList, Gram.alnum x.toNat = false := by
  intro x hx
  have e : (s.extract k m).data.toList = (s.data.toList.drop k).take (m - k) := by
    simp [ByteArray.data_extract, Array.toList_extract, List.extract]
  rw [e] at hx
  obtain ⟨t, ht, rfl⟩ := List.getElem_of_mem hx
  have hl : s.data.toList.length = s.size := by simp
  simp only [List.length_take, List.length_drop] at ht
  rw [List.getElem_take, List.getElem_drop]
  exact h (k + t) (by omega) (by omega) (by omega)

theorem rd_run {s : ByteArray} {k m : Nat} (hkm : k < m) (hm : m < s.size) (h : Other s k m) (ha : alB s[m] = true) :
    rd s 1 k = if Gram.good (s.extract k m).data.toList then rd s 1 m else false := by
  unfold rd
  rw [run_bytes s k m (by omega) hm, drop_at s m hm]
  refine Gram.acc1_run _ _ _ (run_other hm h) ha ?_
  intro e
  have : (s.extract k m).size = 0 := by rw [← ByteArray.size_data, ← Array.length_toList, e]; rfl
  rw [ByteArray.size_extract] at this
  omega

theorem Other.not_end {s : ByteArray} {k : Nat} (h : Other s k s.size) (hk : k < s.size) (hl : alB (s[s.size - 1]) = true) : False := by
  have := h (s.size - 1) (by omega) (by omega) (by omega)
  rw [this] at hl; cases hl

def goodB (s : ByteArray) : Bool := Gram.good s.data.toList
theorem goodB_any (s : ByteArray) (w : World) (hs : s.size ≤ maxLen) :
    Calls Try.prog 40 #[.string s] w fun e w' => e = .returned (.bool (goodB s)) ∧ w' = w := good_any s w hs

set_option maxHeartbeats 1000000 in
theorem model_any (s : ByteArray) (w : World) (hs : s.size ≤ maxLen) (R : Bool) (hR : Hid (rd s 0 0 = R)) :
    Calls Try.prog 26 #[.string s] w fun e w' => e = .returned (.bool R) ∧ w' = w := by
  unfold maxLen at hs
  by_cases h0 : 0 < s.size
  case neg =>
    have hf : R = false := by rw [← hR.out]; exact rd0_end (by omega)
    subst hf
    have hz : ((s.size : Int) == 0) = true := beq_iff_eq.2 (by omega)
    go_enter Try.func26, Try.ntmps26
    go_wp2
    go_ret
    exact ⟨rfl, rfl⟩
  have hz : ((s.size : Int) == 0) = false := beq_eq_false_iff_ne.2 (by omega)
  cases ha0 : alB s[0]
  · have hf : R = false := by rw [← hR.out]; exact rd0_no h0 ha0
    subst hf
    go_enter Try.func26, Try.ntmps26
    go_wp2_with (go_at_call 39; refine (alnum_any _ _).mono ?_; rintro e w' ⟨rfl, rfl⟩)
    go_ret
    exact ⟨rfl, rfl⟩
  cases hal : alB (s[s.size - 1])
  · have hf : R = false := by rw [← hR.out]; exact rd_last h0 hal
    subst hf
    go_enter Try.func26, Try.ntmps26
    go_wp2_with (go_at_call 39; refine (alnum_any _ _).mono ?_; rintro e w' ⟨rfl, rfl⟩)
    go_ret
    exact ⟨rfl, rfl⟩
  have hst : Hid (rd s 1 0 = R) := by
    show _ = _
    rw [rd_al h0 ha0 1, ← rd_al h0 ha0 0]; exact hR
  have Hal : Hid (alB (s[s.size - 1]) = true) := hal
  go_enter Try.func26, Try.ntmps26
  go_wp2_with (go_at_call 39; refine (alnum_any _ _).mono ?_; rintro e w' ⟨rfl, rfl⟩)
  clear hal ha0
  go_loop [3] (fun i => ∃ k : Nat, k ≤ s.size ∧ i = .int .i64 k ∧ Hid (rd s 1 k = R)) (fun i => s.size - (intOf i).toNat)
  case atStart => exact ⟨0, Nat.zero_le _, rfl, hst⟩
  case round =>
    obtain ⟨k, hk, rfl, hd⟩ := hrel
    by_cases hlt : k < s.size
    case neg =>
      have hf : R = true := by rw [← hd.out]; exact rd1_end (by omega)
      subst hf
      go_wp2
      go_ret
      exact ⟨rfl, rfl⟩
    cases hak : alB s[k]
    case true =>
      have Hak : Hid (alB s[k] = true) := hak
      go_wp2_with (go_at_call 39; refine (alnum_any _ _).mono ?_; rintro e w' ⟨rfl, rfl⟩)
      go_round
      case rel => exact ⟨k + 1, by omega, by go_num, by show _ = _; rw [← rd_al hlt Hak.out 1]; exact hd⟩
      case measure => simp [intOf]; omega
    have Hak : Hid (alB s[k] = false) := hak
    go_wp2_with (go_at_call 39; refine (alnum_any _ _).mono ?_; rintro e w' ⟨rfl, rfl⟩)
    clear hak
    go_loop [4] (fun i => ∃ m : Nat, k ≤ m ∧ m ≤ s.size ∧ i = .int .i64 m ∧ Hid (Other s k m)) (fun i => s.size - (intOf i).toNat)
    case atStart => exact ⟨k, by omega, by omega, rfl, Other.start s k⟩
    case round =>
      obtain ⟨m, hkm, hm, rfl, ho⟩ := hrel
      by_cases hml : m < s.size
      case neg =>
        exfalso
        have e : m = s.size := by omega
        rw [e] at ho
        exact ho.out.not_end hlt Hal.out
      cases ham : alB s[m]
      · have Ham : Hid (alB s[m] = false) := ham
        go_wp2_with (go_at_call 39; refine (alnum_any _ _).mono ?_; rintro e w' ⟨rfl, rfl⟩)
        go_round
        case rel => exact ⟨m + 1, by omega, by omega, by go_num, ho.out.step hml Ham.out⟩
        case measure => simp [intOf]; omega
      · have Ham : Hid (alB s[m] = true) := ham
        have hkm' : k < m := by
          by_cases e : m = k
          · subst e; have := Hak.out; rw [this] at ham; cases ham
          · omega
        have hrun : Hid (rd s 1 k = if goodB (s.extract k m) then rd s 1 m else false) := rd_run hkm' hml ho.out Ham.out
        have hsz : Hid ((s.extract k m).size ≤ maxLen) := by show _ ≤ _; rw [ByteArray.size_extract]; unfold maxLen; omega
        cases hg : goodB (s.extract k m)
        · have hf : R = false := by rw [← hd.out, hrun.out, hg]; rfl
          subst hf
          go_wp2_with (first | (go_at_call 39; refine (alnum_any _ _).mono ?_; rintro e w' ⟨rfl, rfl⟩) | (go_at_call 40; refine (goodB_any _ _ hsz.out).mono ?_; rintro e w' ⟨rfl, rfl⟩))
          go_ret
          exact ⟨rfl, rfl⟩
        · have Hg : Hid (goodB (s.extract k m) = true) := hg
          go_wp2_with (first | (go_at_call 39; refine (alnum_any _ _).mono ?_; rintro e w' ⟨rfl, rfl⟩) | (go_at_call 40; refine (goodB_any _ _ hsz.out).mono ?_; rintro e w' ⟨rfl, rfl⟩))
          go_round
          case rel => exact ⟨m, by omega, by go_num, by show _ = _; rw [← hd.out, hrun.out, Hg.out]; rfl⟩
          case measure => simp [intOf]; omega
end Go.Proofs.Qxb6600023a
