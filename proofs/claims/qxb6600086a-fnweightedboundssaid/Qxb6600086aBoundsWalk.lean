/-
  FnWeightedBounds (3): the walk where counts is not empty and weights is nil or as long.
-/
import Derived.Test.Qxb6600086aBoundsPlain
import Derived.Test.Qxb6600086aClone
import Derived.Test.Qxb6600086aWeighted2
namespace Go.Proofs.Qxb6600086a
open Go.RowKit
attribute [local go_sem] run_store_float

/-- What the law asks of the two measures. -/
def Meas (K p ch : Nat) : Prop := (K = 0 → p = 0 ∧ ch = 0) ∧ (0 < K → 4607182418800017408 ≤ p ∧ p ≤ 9218868437227405312 ∧ ch ≤ 9218868437227405312)

/-- What follows the clone of counts: weights is cloned, then Weighted is called. -/
def Tail (n : Nat) (c wt : Nat → Nat) (a1 : Option Addr) (n1 c1 : Nat) (w : World) : Prop :=
  ∀ arr, Arr arr n n c → Calls Try.prog 9 #[.slice a1 n1 c1] (w.alloc (.cells arr 24)) fun e w2 => ∃ a2 n2 c2, e = .returned (.slice a2 n2 c2) ∧ Below (w.alloc (.cells arr 24)).heap.size (w.alloc (.cells arr 24)) w2 ∧
    (Good c wt n → ∃ p ch, Meas (S c n) p ch ∧ Calls Try.prog 10 #[.slice (some ⟨w.heap.size, 0, none⟩) n n, .slice a2 n2 c2] w2 (WOut c n (S c n) p ch w2))

theorem seg_below {w w' : World} {b off n : Nat} {c : Nat → Nat} (h : Seg w b off n c) (hb : Below w.heap.size w w') : Seg w' b off n c := fun i hi =>
  (hb.cell (World.block_lt_of_cell? w _ (h i hi))).trans (h i hi)

theorem tail_nil (n : Nat) (c : Nat → Nat) (w : World) (hn0 : 0 < n) (hn : n ≤ 65536) : Tail n c (fun _ => 1) none 0 0 w := by
  intro arr harr
  refine (clone_nil _).mono ?_
  rintro e w2 ⟨rfl, rfl⟩
  refine ⟨_, _, _, rfl, Below.refl _ _, fun hg => ?_⟩
  have hseg := harr.seg w
  by_cases hK : 0 < S c n
  · have hf := flok_bounds hg hK
    rw [S_one] at hf
    refine ⟨_, _, ⟨fun h => by omega, fun _ => ?_⟩, weighted_nil w.heap.size 0 n n c (S c n) _ _ _ _ _ _ _ _ hn0 hn hseg rfl hK hg.1 hf⟩
    have h1 := peak_ge hg hK hn0
    have h2 := PF_le hg hK n (Nat.le_refl _)
    have h3 := CF_le hg hK n (Nat.le_refl _)
    rw [S_one] at h1 h2 h3
    exact ⟨h1, h2, h3⟩
  · have h0 : S c n = 0 := by omega
    refine ⟨0, 0, ⟨fun _ => ⟨rfl, rfl⟩, fun h => absurd h hK⟩, ?_⟩
    have := weighted_zero w.heap.size 0 n n none 0 0 c _ hn0 hn hseg h0
    rw [h0]
    exact this

theorem tail_both (n b2 off2 cap2 : Nat) (c wt : Nat → Nat) (w : World) (hn0 : 0 < n) (hn : n ≤ 65536) (hwt : Seg w b2 off2 n wt) : Tail n c wt (some ⟨b2, off2, none⟩) n cap2 w := by
  intro arr harr
  have hseg0 := harr.seg w
  have hwt' : Seg (w.alloc (.cells arr 24)) b2 off2 n wt := seg_below hwt ((Below.refl _ _).alloc (Nat.le_refl _) _)
  refine (clone_any b2 off2 n cap2 wt _ hn hwt').mono ?_
  rintro e w2 ⟨rfl, arr2, harr2, rfl⟩
  have hbel : Below (w.alloc (.cells arr 24)).heap.size (w.alloc (.cells arr 24)) ((w.alloc (.cells arr 24)).alloc (.cells arr2 24)) := (Below.refl _ _).alloc (Nat.le_refl _) _
  refine ⟨_, _, _, rfl, hbel, fun hg => ?_⟩
  have hseg := seg_below hseg0 hbel
  have hseg2 := harr2.out.seg (w.alloc (.cells arr 24))
  by_cases hK : 0 < S c n
  · have hf := flok_bounds hg hK
    refine ⟨_, _, ⟨fun h => by omega, fun _ => ?_⟩, weighted_both w.heap.size 0 n n (w.alloc (.cells arr 24)).heap.size 0 n c wt (S c n) (S wt n) _ _ _ _ _ _ _ _ hn0 hn hseg hseg2 (by simp) rfl hg.2.1 rfl hK hg.1 hf⟩
    exact ⟨peak_ge hg hK hn0, PF_le hg hK n (Nat.le_refl _), CF_le hg hK n (Nat.le_refl _)⟩
  · have h0 : S c n = 0 := by omega
    refine ⟨0, 0, ⟨fun _ => ⟨rfl, rfl⟩, fun h => absurd h hK⟩, ?_⟩
    have := weighted_zero w.heap.size 0 n n (some ⟨(w.alloc (.cells arr 24)).heap.size, 0, none⟩) n n c _ hn0 hn hseg h0
    rw [h0]
    exact this

set_option maxHeartbeats 1000000 in
theorem law_main (b off n cap : Nat) (a1 : Option Addr) (n1 c1 : Nat) (c wt : Nat → Nat) (w : World) (hn0 : 0 < n) (hn : n ≤ 65536) (hn1 : n1 ≤ 65536) (hc : Seg w b off n c)
    (hS : Hid (∀ w', w' = w → Calls Try.prog 8 #[.slice (some ⟨b, off, none⟩) n cap, .slice a1 n1 c1] w' (SumsOut c wt n w'))) (hT : Hid (Tail n c wt a1 n1 c1 w)) :
    Calls Try.prog 3 #[.slice (some ⟨b, off, none⟩) n cap, .slice a1 n1 c1] w fun e w' => e = .returned (.bool true) ∧ Below w.heap.size w w' := by
  go_enter Try.func3, Try.ntmps3
  go_wp2_with fail
  refine (bytes7_any _ _ _ _ _ _ _ (by unfold maxLen; omega) (by unfold maxLen; omega)).mono ?_
  rintro e w' ⟨r, rfl, rfl⟩
  cases r
  · go_wp2
    go_ret
    exact ⟨rfl, Below.refl _ _⟩
  go_wp2_with fail
  refine (hS.out _ rfl).mono ?_
  rintro e w2 ⟨ok, keys, rfl, rfl, hok⟩
  cases ok
  · go_wp2
    go_ret
    exact ⟨rfl, Below.refl _ _⟩
  obtain ⟨rfl, hg⟩ := hok rfl
  have Hg : Hid (Good c wt n) := hg
  clear hok hg
  go_wp2_with fail
  refine (clone_any b off n cap c _ hn hc).mono ?_
  rintro e w3 ⟨rfl, arr, harr, rfl⟩
  go_wp2_with fail
  refine (hT.out arr harr.out).mono ?_
  rintro e w4 ⟨a2, n2, c2, rfl, hbel, hW⟩
  obtain ⟨p, ch, hm, hcall⟩ := hW Hg.out
  go_wp2_with fail
  refine hcall.mono ?_
  rintro e w5 ⟨lo, hi, rfl, hmm, hbel2⟩
  clear hcall hW
  obtain ⟨hle1, hle2, hs1, hs2⟩ := hmm.ends
  obtain ⟨K, hK⟩ : ∃ K, Hid (K = S c n) := ⟨_, rfl⟩
  rw [← hK.out] at hm hle2 ⊢
  have Hm : Hid (Meas K p ch) := hm
  have Hs1 : Hid (seen c lo n = true) := hs1
  have Hs2 : Hid (seen c hi n = true) := hs2
  have Hmm : Hid (MinMax c n n lo hi) := hmm
  have hz : w2.heap.size < w5.heap.size := by
    have h1 := hbel.size
    have h2 := hbel2.size
    simp at h1
    omega
  have hcw : Hid (Seg w5 w2.heap.size 0 n c) := seg_below (seg_below (harr.out.seg w2) hbel) hbel2
  have hfin : Hid (∀ o, Below w2.heap.size w2 (w5.alloc o)) := fun o =>
    ((((Below.refl _ _).alloc (Nat.le_refl _) _).trans (hbel.mono (by simp))).trans (hbel2.mono (by have := hbel.size; simp at this; omega))).alloc (by omega) o
  clear hm hs1 hs2 hmm hbel hbel2 hS hT hc
  have d1 : decide (hi < lo) = false := decide_eq_false (by omega)
  have d2 : decide (K < hi) = false := decide_eq_false (by omega)
  go_wp2
  go_loop [8, 9, 10] (fun a b i => ∃ k : Nat, k ≤ n ∧ i = .int .i64 k ∧ a = .bool (seen c lo k) ∧ b = .bool (seen c hi k)) (fun _ _ i => n - (intOf i).toNat)
  case atStart => exact ⟨0, Nat.zero_le _, rfl, rfl, rfl⟩
  case round =>
    obtain ⟨k, hk, rfl, rfl, rfl⟩ := hrel
    by_cases hlt : k < n
    · have hcell := hcw.out k hlt
      rw [Nat.zero_add] at hcell
      have hb1 := (Hmm.out.1 k hlt).1
      have hb2 := (Hmm.out.1 k hlt).2
      have hsn1 : Hid (seen c lo (k + 1) = (seen c lo k || c k == lo)) := rfl
      have hsn2 : Hid (seen c hi (k + 1) = (seen c hi k || c k == hi)) := rfl
      by_cases e1 : c k = lo
      · have f1 : ((c k : Int) == (lo : Int)) = true := beq_iff_eq.2 (by omega)
        have g1 : Hid (seen c lo (k + 1) = true) := by show _ = _; rw [hsn1.out, e1]; simp
        by_cases e2 : c k = hi
        · have f2 : ((c k : Int) == (hi : Int)) = true := beq_iff_eq.2 (by omega)
          have g2 : Hid (seen c hi (k + 1) = true) := by show _ = _; rw [hsn2.out, e2]; simp
          clear e1 e2
          go_wp2
          go_round
          case rel => exact ⟨k + 1, by omega, by go_num, by rw [g1.out], by rw [g2.out]⟩
          case measure => simp [intOf]; omega
        · have f2 : ((c k : Int) == (hi : Int)) = false := beq_eq_false_iff_ne.2 (by omega)
          have g2 : Hid (seen c hi (k + 1) = seen c hi k) := by show _ = _; rw [hsn2.out, beq_eq_false_iff_ne.2 e2]; simp
          clear e1 e2
          go_wp2
          go_round
          case rel => exact ⟨k + 1, by omega, by go_num, by rw [g1.out], by rw [g2.out]⟩
          case measure => simp [intOf]; omega
      · have f1 : ((c k : Int) == (lo : Int)) = false := beq_eq_false_iff_ne.2 (by omega)
        have g1 : Hid (seen c lo (k + 1) = seen c lo k) := by show _ = _; rw [hsn1.out, beq_eq_false_iff_ne.2 e1]; simp
        by_cases e2 : c k = hi
        · have f2 : ((c k : Int) == (hi : Int)) = true := beq_iff_eq.2 (by omega)
          have g2 : Hid (seen c hi (k + 1) = true) := by show _ = _; rw [hsn2.out, e2]; simp
          clear e1 e2
          go_wp2
          go_round
          case rel => exact ⟨k + 1, by omega, by go_num, by rw [g1.out], by rw [g2.out]⟩
          case measure => simp [intOf]; omega
        · have f2 : ((c k : Int) == (hi : Int)) = false := beq_eq_false_iff_ne.2 (by omega)
          have g2 : Hid (seen c hi (k + 1) = seen c hi k) := by show _ = _; rw [hsn2.out, beq_eq_false_iff_ne.2 e2]; simp
          clear e1 e2
          go_wp2
          go_round
          case rel => exact ⟨k + 1, by omega, by go_num, by rw [g1.out], by rw [g2.out]⟩
          case measure => simp [intOf]; omega
    · have e : k = n := by omega
      subst e
      rw [Hs1.out, Hs2.out]
      by_cases hK0 : 0 < K
      · obtain ⟨m1, m2, m3⟩ := Hm.out.2 hK0
        have hz2 : ((K : Int) == 0) = false := beq_eq_false_iff_ne.2 (by omega)
        have o1 : (FloatKind.f64.format.order p 4607182418800017408 == some .gt || FloatKind.f64.format.order p 4607182418800017408 == some .eq) = true := geq_of_le m2 m1
        have o2 : (FloatKind.f64.format.order ch 0 == some .gt || FloatKind.f64.format.order ch 0 == some .eq) = true := geq_of_le m3 (Nat.zero_le _)
        clear m1 m2 m3
        go_wp2
        all_goals go_ret
        all_goals exact ⟨rfl, hfin.out _⟩
      · obtain ⟨rfl, rfl⟩ := Hm.out.1 (by omega)
        have hz2 : ((K : Int) == 0) = true := beq_iff_eq.2 (by omega)
        have o1 : (FloatKind.f64.format.order 0 0 == some .eq) = true := by decide
        go_wp2
        all_goals go_ret
        all_goals exact ⟨rfl, hfin.out _⟩
end Go.Proofs.Qxb6600086a
