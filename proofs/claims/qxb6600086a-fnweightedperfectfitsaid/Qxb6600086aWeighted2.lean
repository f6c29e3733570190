/-
  spread.Weighted (10), with weights.
-/
import Derived.Test.Qxb6600086aWeighted
namespace Go.Proofs.Qxb6600086a
open Go.RowKit
attribute [local go_sem] run_store_float

set_option maxHeartbeats 1000000 in
theorem weighted_both (b off n cap b2 off2 cap2 : Nat) (c wt : Nat → Nat) (K W : Nat) (e q d dd t P C : Nat → Nat) (w : World) (hn0 : 0 < n) (hn : n ≤ 65536) (hc : Seg w b off n c) (hwt : Seg w b2 off2 n wt) (hb2 : b2 < w.heap.size) (hW : Hid (W = S wt n)) (hW2 : W ≤ 9007199254740992) (hK : Hid (K = S c n)) (hK0 : 0 < K) (hK2 : K ≤ 9007199254740992)
    (hfl : Hid (FlOk c wt n K W e q d dd t P C)) :
    Calls Try.prog 10 #[.slice (some ⟨b, off, none⟩) n cap, .slice (some ⟨b2, off2, none⟩) n cap2] w (WOut c n K (P n) (C n) w) := by
  have h0 := hc 0 hn0
  have hb := World.block_lt_of_cell? w _ h0
  simp only [Nat.add_zero] at hb h0
  have hnI : (0 : Int) < (n : Int) := by omega
  go_enter Try.func10, Try.ntmps10
  go_wp2
  go_region
  all_goals go_wp2
  go_loopw [25] (fun i wr => ∃ (k lo hi : Nat), k ≤ n ∧ i = .int .i64 k ∧ Hid (MinMax c n k lo hi) ∧ wr = ((w.alloc (.cells #[.int .u64 0, .int .u64 0, .int .u64 0, .float .f64 0, .float .f64 0] 30)).alloc (.cells #[.int .u64 (S c k : Int), .int .u64 (lo : Int), .int .u64 (hi : Int), .float .f64 0, .float .f64 0] 30)).drew) (fun i _ => n - (intOf i).toNat)
  case atStart => exact ⟨0, c 0, c 0, Nat.zero_le _, rfl, MinMax.start hn0, rfl⟩
  case round =>
    obtain ⟨k, lo, hi, hk, rfl, hmm, rfl⟩ := hrel
    have hSk : S c k ≤ 9007199254740992 := by have := S_mono (f := c) hk; have := hK.out; omega
    clear h0
    by_cases hlt : k < n
    · have hcell := hc k hlt
      have hck : c k ≤ 9007199254740992 := by have := S_le (f := c) hlt; have := hK.out; omega
      by_cases hlo : c k < lo
      · by_cases hhi : hi < c k
        · go_wp2
          go_roundw
          case rel => exact ⟨k + 1, c k, c k, by omega, by go_num, hmm.out.step1 hlt hlo hhi, rfl⟩
          case measure => simp [intOf]; omega
        · go_wp2
          go_roundw
          case rel => exact ⟨k + 1, c k, hi, by omega, by go_num, hmm.out.step2 hlt hlo hhi, rfl⟩
          case measure => simp [intOf]; omega
      · by_cases hhi : hi < c k
        · go_wp2
          go_roundw
          case rel => exact ⟨k + 1, lo, c k, by omega, by go_num, hmm.out.step3 hlt hlo hhi, rfl⟩
          case measure => simp [intOf]; omega
        · go_wp2
          go_roundw
          case rel => exact ⟨k + 1, lo, hi, by omega, by go_num, hmm.out.step4 hlt hlo hhi, rfl⟩
          case measure => simp [intOf]; omega
    · have e : k = n := by omega
      subst e
      rw [← hK.out]
      have hz : ((K : Int) == 0) = false := beq_eq_false_iff_ne.2 (by omega)
      clear hSk hlt
      go_wp2
      go_loopw [8, 56] (fun t i wr => ∃ (j : Nat), j ≤ k ∧ i = .int .i64 j ∧ t = .int .u64 (S wt j : Int) ∧ wr = ((w.alloc (.cells #[.int .u64 0, .int .u64 0, .int .u64 0, .float .f64 0, .float .f64 0] 30)).alloc (.cells #[.int .u64 (K : Int), .int .u64 (lo : Int), .int .u64 (hi : Int), .float .f64 0, .float .f64 0] 30)).drew) (fun _ i _ => k - (intOf i).toNat)
      case atStart => exact ⟨0, Nat.zero_le _, rfl, rfl, rfl⟩
      case round =>
        obtain ⟨j, hj, rfl, rfl, rfl⟩ := hrel
        have hSj : S wt j ≤ 9007199254740992 := by have := S_mono (f := wt) hj; have := hW.out; omega
        by_cases hlt : j < k
        · have hcell := hwt j hlt
          have hwj : wt j ≤ 9007199254740992 := by have := S_le (f := wt) hlt; have := hW.out; omega
          go_wp2
          go_roundw
          case rel => exact ⟨j + 1, by omega, by go_num, by simp only [S]; go_num, trivial⟩
          case measure => simp [intOf]; omega
        · have e : j = k := by omega
          subst e
          rw [← hW.out]
          clear hSj hlt
          go_wp2
          go_loopw [66] (fun i wr => ∃ (m : Nat), m ≤ j ∧ i = .int .i64 m ∧ wr = ((w.alloc (.cells #[.int .u64 0, .int .u64 0, .int .u64 0, .float .f64 0, .float .f64 0] 30)).alloc (.cells #[.int .u64 (K : Int), .int .u64 (lo : Int), .int .u64 (hi : Int), .float .f64 (P m), .float .f64 (C m)] 30)).drew) (fun i _ => j - (intOf i).toNat)
          case atStart => exact ⟨0, Nat.zero_le _, rfl, by rw [hfl.out.1, hfl.out.2.1]⟩
          case round =>
            obtain ⟨m, hm, rfl, rfl⟩ := hrel
            by_cases hlt : m < j
            · have hcell := hc m hlt
              have hcell2 := hwt m hlt
              obtain ⟨x', e', q', d', dd', t', m1, m2, m3, m4, m5, m6, m7, m8⟩ := hfl.out.runs hlt
              go_wp2
              go_roundw
              case rel => exact ⟨m + 1, by omega, by go_num, rfl⟩
              case measure => simp [intOf]; omega
            · have e : m = j := by omega
              subst e
              go_wp2
              refine bodyPost_ret (v := .agg #[.int .u64 (K : Int), .int .u64 (lo : Int), .int .u64 (hi : Int), .float .f64 (P m), .float .f64 (C m)]) (by simp [results, Try.results10, go_sem]) rfl ?_
              exact ⟨lo, hi, rfl, hmm.out, (((Below.refl _ _).alloc (Nat.le_refl _) _).alloc (by simp) _).drew⟩

end Go.Proofs.Qxb6600086a
