/-
  FnAppendUnitsOrdersLikeNumbers (5): the walk.
-/
import Derived.Test.Qxb6600163aAppend2
import Derived.Test.Qxb6600163aCompare
namespace Go.Proofs.Qxb6600163a
open Go.RowKit

theorem append_any5 (p m : Nat) (neg : Bool) (u : Int) (hp : p ≤ 65536) (hm : Hid (m = u.natAbs)) (hneg : Hid (neg = decide (u < 0))) (h1 : -9223372036854775808 ≤ u) (h2 : u ≤ 9223372036854775807) (rule : Int) (w : World) :
    Calls Try.prog 7 #[.agg #[.string ByteArray.empty, .int .i32 (p : Int), .int .i64 rule], .slice none 0 0, .int .i64 u] w (AppOut p m neg w) := by
  by_cases h : p ≤ 26
  · exact append_small p m neg u h hm hneg h1 h2 rule w
  · exact append_large p m neg u (by omega) hp hm hneg h1 h2 rule w

theorem starts_suf {p m K : Nat} (h : Txt.Fin p m K) : Starts (Txt.suf p m K) := by
  obtain ⟨l, hh⟩ := Txt.suf_head p m K (by have := h.1; omega)
  exact ⟨_, l, hh, (Txt.dg_range m (K - 1)).1⟩

theorem len_suf {p m K : Nat} (h : Txt.Fin p m K) (hp : p ≤ 65536) (hm : m ≤ 9223372036854775808) : 1 ≤ (Txt.suf p m K).length ∧ (Txt.suf p m K).length ≤ 100000 := by
  have hf := Txt.few h hm
  have h1 := h.1
  rw [Txt.suf_length]
  split <;> omega

/-- The two texts stand in memory as they were written. -/
theorem texts_any (p : Nat) (u v : Int) (hp : p ≤ 65536) (hu1 : -9223372036854775808 ≤ u) (hu2 : u ≤ 9223372036854775807) (hv1 : -9223372036854775808 ≤ v) (hv2 : v ≤ 9223372036854775807) (m1 m2 K1 K2 : Nat) (neg1 neg2 : Bool)
    (hm1 : m1 = u.natAbs) (hm2 : m2 = v.natAbs) (hn1 : neg1 = decide (u < 0)) (hn2 : neg2 = decide (v < 0)) (f1 : Txt.Fin p m1 K1) (f2 : Txt.Fin p m2 K2) (g1 c1 g2 c2 : Nat) (w : World)
    (z1 : (Txt.sgn neg1 ++ Txt.suf p m1 K1).length ≤ c1) (z2 : (Txt.sgn neg2 ++ Txt.suf p m2 K2).length ≤ c2) (r1 : Row w g1 0 (Txt.sgn neg1 ++ Txt.suf p m1 K1)) (r2 : Row w g2 0 (Txt.sgn neg2 ++ Txt.suf p m2 K2)) (n1 n2 : Nat) (en1 : n1 = (Txt.sgn neg1 ++ Txt.suf p m1 K1).length) (en2 : n2 = (Txt.sgn neg2 ++ Txt.suf p m2 K2).length) :
    Calls Try.prog 10 #[.slice (some ⟨g1, 0, none⟩) n1 c1, .slice (some ⟨g2, 0, none⟩) n2 c2] w fun e w' => e = .returned (.int .i64 (cmpI u v)) ∧ ∃ n, w' = w.drewN n := by
  subst en1 en2
  have l1 := len_suf f1 hp (by omega)
  have l2 := len_suf f2 hp (by omega)
  by_cases hu : u < 0
  · have hn1' : neg1 = true := by rw [hn1]; exact decide_eq_true hu
    subst hn1'
    by_cases hv : v < 0
    · have hn2' : neg2 = true := by rw [hn2]; exact decide_eq_true hv
      subst hn2'
      rw [sgn_len] at z1 z2 ⊢
      rw [sgn_len]
      refine texts_nn g1 c1 g2 c2 (Txt.suf p m1 K1) (Txt.suf p m2 K2) w _ _ rfl rfl (by omega) (by omega) z1 z2 r1 r2 (by omega) (by omega) _ ?_
      show _ = _
      rw [Txt.cmp_suf f2 f1]
      unfold cmpI Txt.cmpN
      by_cases h : u < v
      · rw [if_pos h, if_pos (by omega)]
      · rw [if_neg h]
        by_cases h' : v < u
        · rw [if_pos h', if_neg (by omega), if_pos (by omega)]
        · rw [if_neg h', if_neg (by omega), if_neg (by omega)]
    · have hn2' : neg2 = false := by rw [hn2]; exact decide_eq_false hv
      subst hn2'
      have e : cmpI u v = -1 := if_pos (by omega)
      rw [e]
      rw [sgn_len]
      exact texts_np g1 c1 g2 c2 (Txt.suf p m1 K1) (Txt.suf p m2 K2) w _ _ rfl rfl r1 r2 (starts_suf f2)
  · have hn1' : neg1 = false := by rw [hn1]; exact decide_eq_false hu
    subst hn1'
    by_cases hv : v < 0
    · have hn2' : neg2 = true := by rw [hn2]; exact decide_eq_true hv
      subst hn2'
      have e : cmpI u v = 1 := by unfold cmpI; rw [if_neg (by omega), if_pos (by omega)]
      rw [e]
      rw [sgn_len (Txt.suf p m2 K2)]
      exact texts_pn g1 c1 g2 c2 (Txt.suf p m1 K1) (Txt.suf p m2 K2) w _ _ rfl rfl r1 r2 (starts_suf f1)
    · have hn2' : neg2 = false := by rw [hn2]; exact decide_eq_false hv
      subst hn2'
      refine texts_pp g1 c1 g2 c2 (Txt.suf p m1 K1) (Txt.suf p m2 K2) w _ _ rfl rfl ?_ ?_ r1 r2 (starts_suf f1) (starts_suf f2) _ ?_
      · show (Txt.suf p m1 K1).length ≤ _; omega
      · show (Txt.suf p m2 K2).length ≤ _; omega
      show _ = _
      rw [Txt.cmp_suf f1 f2]
      unfold cmpI Txt.cmpN
      by_cases h : u < v
      · rw [if_pos h, if_pos (by omega)]
      · rw [if_neg h]
        by_cases h' : v < u
        · rw [if_pos h', if_neg (by omega), if_pos (by omega)]
        · rw [if_neg h', if_neg (by omega), if_neg (by omega)]

set_option maxHeartbeats 1000000 in
theorem law5 (p : Nat) (u v : Int) (hp : p ≤ 65536) (hu1 : -9223372036854775808 ≤ u) (hu2 : u ≤ 9223372036854775807) (hv1 : -9223372036854775808 ≤ v) (hv2 : v ≤ 9223372036854775807) (w : World) :
    Calls Try.prog 5 #[.int .i32 (p : Int), .int .i64 u, .int .i64 v] w fun e w' => e = .returned (.bool true) ∧ Below w.heap.size w w' := by
  have d1 : decide ((p : Int) < 0) = false := decide_eq_false (by omega)
  have d2 : decide (65536 < (p : Int)) = false := decide_eq_false (by omega)
  obtain ⟨m1, hm1⟩ : ∃ m, Hid (m = u.natAbs) := ⟨_, rfl⟩
  obtain ⟨neg1, hn1⟩ : ∃ neg, Hid (neg = decide (u < 0)) := ⟨_, rfl⟩
  obtain ⟨m2, hm2⟩ : ∃ m, Hid (m = v.natAbs) := ⟨_, rfl⟩
  obtain ⟨neg2, hn2⟩ : ∃ neg, Hid (neg = decide (v < 0)) := ⟨_, rfl⟩
  go_enter Try.func5, Try.ntmps5
  go_wp2_with fail
  refine (append_any5 p m1 neg1 u hp hm1 hn1 hu1 hu2 0 _).mono ?_
  rintro e w1 ⟨K1, g1, c1, f1, rfl, z1, x1, y1, cells1, bel1⟩
  have F1 : Hid (Txt.Fin p m1 K1) := f1
  have Z1 : Hid ((Txt.sgn neg1 ++ Txt.suf p m1 K1).length ≤ c1) := z1
  have R1 : Hid (Row w1 g1 0 (Txt.sgn neg1 ++ Txt.suf p m1 K1)) := fun j hj => by rw [Nat.zero_add]; exact cells1 j hj
  have B1 : Hid (Below (w.alloc (.cells #[.string ByteArray.empty, .int .i32 (p : Int), .int .i64 0] 24)).heap.size (w.alloc (.cells #[.string ByteArray.empty, .int .i32 (p : Int), .int .i64 0] 24)) w1) := bel1
  have q0 : w1.cell? ⟨w.heap.size, 0, none⟩ = some (.string ByteArray.empty) := (bel1.cell (p := ⟨w.heap.size, 0, none⟩) (by simp)).trans (World.cell?_alloc_at _ _ _ _ rfl)
  have q1 : w1.cell? ⟨w.heap.size, 1, none⟩ = some (.int .i32 (p : Int)) := (bel1.cell (p := ⟨w.heap.size, 1, none⟩) (by simp)).trans (World.cell?_alloc_at _ _ _ _ rfl)
  have q2 : w1.cell? ⟨w.heap.size, 2, none⟩ = some (.int .i64 0) := (bel1.cell (p := ⟨w.heap.size, 2, none⟩) (by simp)).trans (World.cell?_alloc_at _ _ _ _ rfl)
  have Y1 : Hid (g1 < w1.heap.size) := y1
  have S1 : Hid (w.heap.size < w1.heap.size) := by have := bel1.size; simp at this; exact this
  obtain ⟨N1, HN1⟩ : ∃ N, Hid (N = (Txt.sgn neg1 ++ Txt.suf p m1 K1).length) := ⟨_, rfl⟩
  rw [← HN1.out]
  clear f1 z1 x1 y1 cells1 bel1
  go_wp2_with fail
  refine (append_any5 p m2 neg2 v hp hm2 hn2 hv1 hv2 0 _).mono ?_
  rintro e w2 ⟨K2, g2, c2, f2, rfl, z2, x2, y2, cells2, bel2⟩
  have F2 : Hid (Txt.Fin p m2 K2) := f2
  have Z2 : Hid ((Txt.sgn neg2 ++ Txt.suf p m2 K2).length ≤ c2) := z2
  have R2 : Hid (Row w2 g2 0 (Txt.sgn neg2 ++ Txt.suf p m2 K2)) := fun j hj => by rw [Nat.zero_add]; exact cells2 j hj
  have R1' : Hid (Row w2 g1 0 (Txt.sgn neg1 ++ Txt.suf p m1 K1)) := fun j hj => (bel2.cell (p := ⟨g1, 0 + j, none⟩) Y1.out).trans (R1.out j hj)
  have hB : Hid (Below w.heap.size w w2) := (((Below.refl _ _).alloc (Nat.le_refl _) _).trans (B1.out.mono (by simp))).trans (bel2.mono (Nat.le_of_lt S1.out))
  obtain ⟨N2, HN2⟩ : ∃ N, Hid (N = (Txt.sgn neg2 ++ Txt.suf p m2 K2).length) := ⟨_, rfl⟩
  rw [← HN2.out]
  clear f2 z2 x2 y2 cells2 bel2 q0 q1 q2
  go_wp2_with fail
  refine (texts_any p u v hp hu1 hu2 hv1 hv2 m1 m2 K1 K2 neg1 neg2 hm1.out hm2.out hn1.out hn2.out F1.out F2.out g1 c1 g2 c2 _ Z1.out Z2.out R1'.out R2.out N1 N2 HN1.out HN2.out).mono ?_
  rintro e w3 ⟨rfl, n, rfl⟩
  go_wp2_with fail
  refine (ints_any u v _).mono ?_
  rintro e w3 ⟨rfl, rfl⟩
  have hbb : (cmpI u v == cmpI u v) = true := by simp
  go_wp2
  go_ret
  exact ⟨rfl, below_drewN hB.out n⟩
end Go.Proofs.Qxb6600163a
