/-
  FnWeightedPerfectFit (5): the plain law, and the walk behind the guards.
-/
import Derived.Test.Qxb6600086aPerfect
import Derived.Test.Qxb6600086aClone
import Derived.Test.Qxb6600086aWeighted2
namespace Go.Proofs.Qxb6600086a
open Go.RowKit
attribute [local go_sem] run_store_float

def cnt (m : Nat) (wt : Nat → Nat) (i : Nat) : Nat := m * wt i
theorem S_cnt (m : Nat) (wt : Nat → Nat) : ∀ n, S (cnt m wt) n = m * S wt n
  | 0 => by simp [S]
  | n + 1 => by simp only [S, S_cnt m wt n, cnt, Nat.mul_add]
def oneIf (i : Nat) : Nat := if i = 0 then 0 else 4607182418800017408

theorem flok_perfect {wt : Nat → Nat} {n m : Nat} (hm : 0 < m) (hpos : ∀ i, i < n → 1 ≤ wt i) (hf : Fits wt n m) :
    FlOk (cnt m wt) wt n (m * S wt n) (S wt n) (fun i => Fl.fl (cnt m wt i)) (fun _ => 4607182418800017408) (fun _ => 0) (fun _ => 0) (fun _ => 0) oneIf (fun _ => 0) := by
  refine ⟨rfl, rfl, fun i hi => ?_⟩
  have hw := hpos i hi
  have hW : 0 < S wt n := Nat.lt_of_lt_of_le hw (S_le hi)
  have h1 := hf.2 i hi
  have hc : cnt m wt i ≤ 9007199254740992 := by
    refine Nat.le_trans ?_ h1
    unfold cnt
    exact Nat.mul_le_mul_right _ (Nat.le_mul_of_pos_right m hW)
  obtain ⟨g1, g2, g3, g4, g5, g6⟩ := Fl.perfect_step (c := cnt m wt i) (Nat.mul_pos hm hW) hw hW hf.1 h1 hc (by unfold cnt; rw [Nat.mul_assoc, Nat.mul_assoc, Nat.mul_comm (wt i)])
  refine ⟨g1, g2, g3, g4, g5, g6, ?_, by show 4607182418800017408 ≤ _; omega, ?_, Fl.add_zero⟩
  · unfold oneIf; split <;> omega
  · unfold oneIf; rw [if_neg (by omega)]; split <;> simp

theorem ends_eq {wt : Nat → Nat} {n m lo hi mn mx : Nat} (h1 : MinMax (cnt m wt) n n lo hi) (h2 : MinMax wt n n mn mx) : lo = m * mn ∧ hi = m * mx := by
  obtain ⟨a1, ⟨i1, b1, c1⟩, ⟨i2, b2, c2⟩⟩ := h1
  obtain ⟨a2, ⟨j1, d1, e1⟩, ⟨j2, d2, e2⟩⟩ := h2
  have f1 := (a1 j1 d1).1
  have f2 := (a1 j2 d2).2
  have f3 := (a2 i1 b1).1
  have f4 := (a2 i2 b2).2
  unfold cnt at *
  rw [e1] at f1
  rw [e2] at f2
  have g1 := Nat.mul_le_mul_left m f3
  have g2 := Nat.mul_le_mul_left m f4
  omega

set_option maxHeartbeats 1000000 in
theorem fit_zero (b off n cap : Nat) (wt : Nat → Nat) (w : World) (hn0 : 0 < n) (hn : n ≤ 65536) (hwt : Seg w b off n wt) :
    Calls Try.prog 5 #[.slice (some ⟨b, off, none⟩) n cap, .int .u64 0] w fun e w' => e = .returned (.bool true) ∧ Below w.heap.size w w' := by
  have hnI : (0 : Int) < (n : Int) := by omega
  have d0 : decide ((65536 : Int) < (n : Int)) = false := decide_eq_false (by omega)
  go_enter Try.func5, Try.ntmps5
  go_wp2_with fail
  refine (bytes12_any _ _ _ _ _ (by unfold maxLen; omega)).mono ?_
  rintro e w' ⟨r, rfl, rfl⟩
  cases r
  · go_wp2
    go_ret
    exact ⟨rfl, Below.refl _ _⟩
  go_wp2_with fail
  refine (positive_any b off n cap wt _ hn0 hn hwt).mono ?_
  rintro e w2 ⟨ok, rfl, rfl, hok⟩
  cases ok
  · go_wp2
    go_ret
    exact ⟨rfl, Below.refl _ _⟩
  clear hok
  go_wp2_with fail
  refine (clone_any b off n cap wt _ hn hwt).mono ?_
  rintro e w3 ⟨rfl, arr, harr, rfl⟩
  have ha0 : arr[0]? = some (.int .u64 (wt 0 : Int)) := harr.out.2.2 0 hn0
  go_wp2
  clear ha0 hwt
  go_loop [5, 6, 7, 8] (fun t x y i => ∃ (k lo hi : Nat) (T : Int), k ≤ n ∧ i = .int .i64 k ∧ t = .int .u64 T ∧ x = .int .u64 (lo : Int) ∧ y = .int .u64 (hi : Int) ∧ Hid (MinMax wt n k lo hi)) (fun _ _ _ i => n - (intOf i).toNat)
  case atStart => exact ⟨0, wt 0, wt 0, 0, Nat.zero_le _, rfl, rfl, rfl, rfl, MinMax.start hn0⟩
  case round =>
    obtain ⟨k, lo, hi, T, hk, rfl, rfl, rfl, rfl, hmm⟩ := hrel
    by_cases hlt : k < n
    · have hak : arr[k]? = some (.int .u64 (wt k : Int)) := harr.out.2.2 k hlt
      by_cases hlo : wt k < lo
      · by_cases hhi : hi < wt k
        · go_wp2
          go_round
          case rel => exact ⟨k + 1, wt k, wt k, _, by omega, by go_num, rfl, rfl, rfl, hmm.out.step1 hlt hlo hhi⟩
          case measure => simp [intOf]; omega
        · go_wp2
          go_round
          case rel => exact ⟨k + 1, wt k, hi, _, by omega, by go_num, rfl, rfl, rfl, hmm.out.step2 hlt hlo hhi⟩
          case measure => simp [intOf]; omega
      · by_cases hhi : hi < wt k
        · go_wp2
          go_round
          case rel => exact ⟨k + 1, lo, wt k, _, by omega, by go_num, rfl, rfl, rfl, hmm.out.step3 hlt hlo hhi⟩
          case measure => simp [intOf]; omega
        · go_wp2
          go_round
          case rel => exact ⟨k + 1, lo, hi, _, by omega, by go_num, rfl, rfl, rfl, hmm.out.step4 hlt hlo hhi⟩
          case measure => simp [intOf]; omega
    · have e : k = n := by omega
      subst e
      have hmk := run_make_row' (P := Try.prog) 22 24 (.int .u64 0) 8 Try.underlying22 Try.info24 rfl .i64 .i64 k (by omega) (by omega)
      clear hlt hk
      go_wp2
      go_loopw [11] (fun i wr => ∃ (j : Nat) (arr2 : Array Value), j ≤ k ∧ i = .int .i64 j ∧ Hid (Arr arr2 k j (cnt 0 wt)) ∧ wr = (w2.alloc (.cells arr 24)).alloc (.cells arr2 24)) (fun i _ => k - (intOf i).toNat)
      case atStart => exact ⟨0, _, Nat.zero_le _, rfl, Arr.start k _, rfl⟩
      case round =>
        obtain ⟨j, arr2, hj, rfl, harr2, rfl⟩ := hrel
        by_cases hlt : j < k
        · have hak : arr[j]? = some (.int .u64 (wt j : Int)) := harr.out.2.2 j hlt
          obtain ⟨z, hz⟩ := harr2.out.2.1 j hlt
          have hsz : j < arr2.size := by rw [harr2.out.1]; exact hlt
          go_wp2
          go_roundw
          case rel => exact ⟨j + 1, _, by omega, by go_num, harr2.out.step hlt (by simp [cnt]), rfl⟩
          case measure => simp [intOf]; omega
        · have e : j = k := by omega
          subst e
          have hseg1 : Seg ((w2.alloc (.cells arr 24)).alloc (.cells arr2 24)) (w2.alloc (.cells arr 24)).heap.size 0 j (cnt 0 wt) := harr2.out.seg _
          simp only [World.size_alloc] at hseg1
          have Hseg : Hid (Seg ((w2.alloc (.cells arr 24)).alloc (.cells arr2 24)) (w2.heap.size + 1) 0 j (cnt 0 wt)) := hseg1
          have HK : Hid (S (cnt 0 wt) j = 0) := by show _ = _; rw [S_cnt, Nat.zero_mul]
          clear hseg1 hlt hmk
          go_wp2_with fail
          refine (weighted_zero _ _ _ _ _ _ _ _ _ hn0 hn Hseg.out HK.out).mono ?_
          rintro e w5 ⟨lo2, hi2, rfl, hmm2, hbel⟩
          obtain ⟨e1, e2⟩ := ends_eq hmm2 hmm.out
          rw [Nat.zero_mul] at e1 e2
          subst e1 e2
          have hfin : Hid (∀ o, Below w2.heap.size w2 (w5.alloc o)) := fun o =>
            ((((Below.refl _ _).alloc (Nat.le_refl _) _).alloc (by simp) _).trans (hbel.mono (by simp; omega))).alloc (by have := hbel.size; simp at this; omega) o
          have o1 : (FloatKind.f64.format.order 0 0 == some .eq) = true := by decide
          clear hbel hmm2
          go_wp2
          all_goals go_ret
          all_goals exact ⟨rfl, hfin.out _⟩
set_option maxHeartbeats 1000000 in
theorem fit_pos (b off n cap m : Nat) (wt : Nat → Nat) (w : World) (hm0 : 0 < m) (hn0 : 0 < n) (hn : n ≤ 65536) (hwt : Seg w b off n wt) :
    Calls Try.prog 5 #[.slice (some ⟨b, off, none⟩) n cap, .int .u64 (m : Int)] w fun e w' => e = .returned (.bool true) ∧ Below w.heap.size w w' := by
  have hnI : (0 : Int) < (n : Int) := by omega
  have d0 : decide ((65536 : Int) < (n : Int)) = false := decide_eq_false (by omega)
  have hmz : ((m : Int) != 0) = true := by rw [bne_iff_ne]; omega
  have hmz2 : ((m : Int) == 0) = false := beq_eq_false_iff_ne.2 (by omega)
  go_enter Try.func5, Try.ntmps5
  go_wp2_with fail
  refine (bytes12_any _ _ _ _ _ (by unfold maxLen; omega)).mono ?_
  rintro e w' ⟨r, rfl, rfl⟩
  cases r
  · go_wp2
    go_ret
    exact ⟨rfl, Below.refl _ _⟩
  go_wp2_with fail
  refine (positive_any b off n cap wt _ hn0 hn hwt).mono ?_
  rintro e w2 ⟨ok, rfl, rfl, hok⟩
  cases ok
  · go_wp2
    go_ret
    exact ⟨rfl, Below.refl _ _⟩
  have hpos : Hid (∀ i, i < n → 1 ≤ wt i) := hok rfl
  clear hok
  go_wp2_with fail
  refine (perfect_any b off n cap m wt _ hn0 hn hwt hpos).mono ?_
  rintro e w3 ⟨ok, rfl, rfl, hok⟩
  cases ok
  · go_wp2
    go_ret
    exact ⟨rfl, Below.refl _ _⟩
  have hfit : Hid (Fits wt n m) := hok rfl
  have hone : Hid (∀ i, i < n → m * S wt n ≤ 9007199254740992 ∧ m * wt i ≤ 9007199254740992) := fun i hi => by
    have h1 := hfit.out.2 i hi
    have h2 := hpos.out i hi
    exact ⟨Nat.le_trans (Nat.le_mul_of_pos_right _ h2) h1, Nat.le_trans (Nat.mul_le_mul_right _ (Nat.le_mul_of_pos_right m (Nat.lt_of_lt_of_le h2 (S_le hi)))) h1⟩
  clear hok
  go_wp2_with fail
  refine (clone_any b off n cap wt _ hn hwt).mono ?_
  rintro e w4 ⟨rfl, arr, harr, rfl⟩
  have ha0 : arr[0]? = some (.int .u64 (wt 0 : Int)) := harr.out.2.2 0 hn0
  go_wp2
  clear ha0 hwt
  go_loop [5, 6, 7, 8] (fun t x y i => ∃ (k lo hi : Nat), k ≤ n ∧ i = .int .i64 k ∧ t = .int .u64 (S wt k : Int) ∧ x = .int .u64 (lo : Int) ∧ y = .int .u64 (hi : Int) ∧ Hid (MinMax wt n k lo hi)) (fun _ _ _ i => n - (intOf i).toNat)
  case atStart => exact ⟨0, wt 0, wt 0, Nat.zero_le _, rfl, rfl, rfl, rfl, MinMax.start hn0⟩
  case round =>
    obtain ⟨k, lo, hi, hk, rfl, rfl, rfl, rfl, hmm⟩ := hrel
    have hSk : S wt k ≤ 9007199254740992 := Nat.le_trans (S_mono hk) hfit.out.1
    by_cases hlt : k < n
    · have hak : arr[k]? = some (.int .u64 (wt k : Int)) := harr.out.2.2 k hlt
      have hwk : wt k ≤ 9007199254740992 := Nat.le_trans (S_le hlt) hfit.out.1
      by_cases hlo : wt k < lo
      · by_cases hhi : hi < wt k
        · go_wp2
          go_round
          case rel => exact ⟨k + 1, wt k, wt k, by omega, by go_num, by simp only [S]; go_num, rfl, rfl, hmm.out.step1 hlt hlo hhi⟩
          case measure => simp [intOf]; omega
        · go_wp2
          go_round
          case rel => exact ⟨k + 1, wt k, hi, by omega, by go_num, by simp only [S]; go_num, rfl, rfl, hmm.out.step2 hlt hlo hhi⟩
          case measure => simp [intOf]; omega
      · by_cases hhi : hi < wt k
        · go_wp2
          go_round
          case rel => exact ⟨k + 1, lo, wt k, by omega, by go_num, by simp only [S]; go_num, rfl, rfl, hmm.out.step3 hlt hlo hhi⟩
          case measure => simp [intOf]; omega
        · go_wp2
          go_round
          case rel => exact ⟨k + 1, lo, hi, by omega, by go_num, by simp only [S]; go_num, rfl, rfl, hmm.out.step4 hlt hlo hhi⟩
          case measure => simp [intOf]; omega
    · have e : k = n := by omega
      subst e
      have hmk := run_make_row' (P := Try.prog) 22 24 (.int .u64 0) 8 Try.underlying22 Try.info24 rfl .i64 .i64 k (by omega) (by omega)
      obtain ⟨W, hW⟩ : ∃ W, Hid (W = S wt k) := ⟨_, rfl⟩
      rw [← hW.out]
      clear hlt hk hSk
      go_wp2
      go_loopw [11] (fun i wr => ∃ (j : Nat) (arr2 : Array Value), j ≤ k ∧ i = .int .i64 j ∧ Hid (Arr arr2 k j (cnt m wt)) ∧ wr = (w3.alloc (.cells arr 24)).alloc (.cells arr2 24)) (fun i _ => k - (intOf i).toNat)
      case atStart => exact ⟨0, _, Nat.zero_le _, rfl, Arr.start k _, rfl⟩
      case round =>
        obtain ⟨j, arr2, hj, rfl, harr2, rfl⟩ := hrel
        by_cases hlt : j < k
        · have hak : arr[j]? = some (.int .u64 (wt j : Int)) := harr.out.2.2 j hlt
          obtain ⟨z, hz⟩ := harr2.out.2.1 j hlt
          have hpi : ((cnt m wt j : Nat) : Int) = (m : Int) * (wt j : Int) := Int.natCast_mul _ _
          have hpl : (m : Int) * (wt j : Int) ≤ 9007199254740992 := by
            have := (hone.out j hlt).2
            have h2 : cnt m wt j = m * wt j := rfl
            omega
          have hp0 : 0 ≤ (m : Int) * (wt j : Int) := by omega
          have Hpi : Hid ((m : Int) * (wt j : Int) = ((cnt m wt j : Nat) : Int)) := hpi.symm
          clear hpi
          have hsz : j < arr2.size := by rw [harr2.out.1]; exact hlt
          go_wp2
          go_roundw
          case rel => exact ⟨j + 1, _, by omega, by go_num, harr2.out.step hlt Hpi.out, rfl⟩
          case measure => simp [intOf]; omega
        · have e : j = k := by omega
          subst e
          have hseg1 : Seg ((w3.alloc (.cells arr 24)).alloc (.cells arr2 24)) (w3.alloc (.cells arr 24)).heap.size 0 j (cnt m wt) := harr2.out.seg _
          simp only [World.size_alloc] at hseg1
          have Hseg : Hid (Seg ((w3.alloc (.cells arr 24)).alloc (.cells arr2 24)) (w3.heap.size + 1) 0 j (cnt m wt)) := hseg1
          have hseg2 : Seg ((w3.alloc (.cells arr 24)).alloc (.cells arr2 24)) w3.heap.size 0 j wt := fun i hi => (World.cell?_alloc_past _ _ _ (by simp)).trans (harr.out.seg w3 i hi)
          have Hseg2 : Hid (Seg ((w3.alloc (.cells arr 24)).alloc (.cells arr2 24)) w3.heap.size 0 j wt) := hseg2
          obtain ⟨K, hK⟩ : ∃ K, Hid (K = m * W) := ⟨_, rfl⟩
          have hKS : Hid (K = S (cnt m wt) j) := by show _ = _; rw [hK.out, S_cnt, hW.out]
          have hfl : Hid (FlOk (cnt m wt) wt j K W (fun i => Fl.fl (cnt m wt i)) (fun _ => 4607182418800017408) (fun _ => 0) (fun _ => 0) (fun _ => 0) oneIf (fun _ => 0)) := by
            have := flok_perfect hm0 hpos.out hfit.out
            rw [hK.out, hW.out]; exact this
          have hW0 : 0 < W := by rw [hW.out]; exact Nat.lt_of_lt_of_le (hpos.out 0 hn0) (S_le hn0)
          have hW2 : W ≤ 9007199254740992 := by rw [hW.out]; exact hfit.out.1
          have hK0 : 0 < K := by rw [hK.out]; exact Nat.mul_pos hm0 hW0
          have hK2 : K ≤ 9007199254740992 := by rw [hK.out, hW.out]; exact (hone.out 0 hn0).1
          clear hseg1 hseg2 hlt hmk
          go_wp2_with fail
          refine (weighted_both (w3.heap.size + 1) 0 j j w3.heap.size 0 j (cnt m wt) wt K W _ _ _ _ _ _ _ _ hn0 hn Hseg.out Hseg2.out (by simp; omega) hW hW2 hKS hK0 hK2 hfl).mono ?_
          rintro e w5 ⟨lo2, hi2, rfl, hmm2, hbel⟩
          obtain ⟨e1, e2⟩ := ends_eq hmm2 hmm.out
          have hPn : oneIf j = 4607182418800017408 := by unfold oneIf; rw [if_neg (by omega)]
          rw [hPn]
          have k1 : (m : Int) * (W : Int) = (K : Int) := by rw [hK.out]; exact (Int.natCast_mul _ _).symm
          have k2 : (m : Int) * (lo : Int) = (lo2 : Int) := by rw [e1]; exact (Int.natCast_mul _ _).symm
          have k3 : (m : Int) * (hi : Int) = (hi2 : Int) := by rw [e2]; exact (Int.natCast_mul _ _).symm
          have b2 : lo2 ≤ 9007199254740992 := by obtain ⟨_, ⟨i, hi', h'⟩, _⟩ := hmm2; rw [← h']; exact (hone.out i hi').2
          have b3 : hi2 ≤ 9007199254740992 := by obtain ⟨_, _, ⟨i, hi', h'⟩⟩ := hmm2; rw [← h']; exact (hone.out i hi').2
          have hfin : Hid (∀ o, Below w3.heap.size w3 (w5.alloc o)) := fun o =>
            ((((Below.refl _ _).alloc (Nat.le_refl _) _).alloc (by simp) _).trans (hbel.mono (by simp; omega))).alloc (by have := hbel.size; simp at this; omega) o
          have o1 : (FloatKind.f64.format.order 4607182418800017408 4607182418800017408 == some .eq) = true := by
            show (Ieee.double.order 4607182418800017408 4607182418800017408 == some .eq) = true
            rw [Fl.order_eq (by omega) (by omega)]; decide
          have o2 : (FloatKind.f64.format.order 0 0 == some .eq) = true := by decide
          clear hbel hmm2 e1 e2 hPn hm0
          go_wp2
          all_goals go_ret
          all_goals exact ⟨rfl, hfin.out _⟩

end Go.Proofs.Qxb6600086a
