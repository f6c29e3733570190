/-
  allDigits (15), ZZallDigits (9), FnAppendUnitsWritesSignedDecimal (4).
-/
import Derived.Test.Qxb6600163aAppend2
import Derived.Laws.IdiomStrings
namespace Go.Proofs.Qxb6600163a
open Go.RowKit

theorem append_any (p m : Nat) (neg : Bool) (u : Int) (hp : p ≤ 65536) (hm : Hid (m = u.natAbs)) (hneg : Hid (neg = decide (u < 0))) (h1 : -9223372036854775808 ≤ u) (h2 : u ≤ 9223372036854775807) (rule : Int) (w : World) :
    Calls Try.prog 7 #[.agg #[.string ByteArray.empty, .int .i32 (p : Int), .int .i64 rule], .slice none 0 0, .int .i64 u] w (AppOut p m neg w) := by
  by_cases h : p ≤ 26
  · exact append_small p m neg u h hm hneg h1 h2 rule w
  · exact append_large p m neg u (by omega) hp hm hneg h1 h2 rule w

/-- One digit or more, and nothing else. -/
def Dig (s : ByteArray) : Prop := 0 < s.size ∧ s.size ≤ 1048576 ∧ ∀ t (h : t < s.size), 48 ≤ s[t].toNat ∧ s[t].toNat ≤ 57

set_option maxHeartbeats 400000 in
theorem digits_yes (s : ByteArray) (hd : Hid (Dig s)) (w : World) :
    Calls Try.prog 15 #[.string s] w fun e w' => e = .returned (.bool true) ∧ w' = w := by
  have h0 := hd.out.1
  have hs := hd.out.2.1
  have hne : s.toList.isEmpty = false := by
    rw [ByteArray.toList_eq]
    cases h : s.data.toList with
    | nil =>
      have : s.data.toList.length = s.size := by simp
      rw [h] at this; simp at this; omega
    | cons => rfl
  go_enter Try.func15, Try.ntmps15
  go_wp2
  go_loop [3] (fun i => ∃ k : Nat, k ≤ s.size ∧ i = .int .i64 k) (fun i => s.size - (intOf i).toNat)
  case atStart => exact ⟨0, Nat.zero_le _, rfl⟩
  case round =>
    obtain ⟨k, hk, rfl⟩ := hrel
    by_cases hlt : k < s.size
    · have l1 := (hd.out.2.2 k hlt).1
      have l2 := (hd.out.2.2 k hlt).2
      go_wp2
      go_round
      case rel => exact ⟨k + 1, by omega, by go_num⟩
      case measure => simp [intOf]; omega
    · go_wp2
      go_ret
      exact ⟨rfl, rfl⟩

set_option maxHeartbeats 400000 in
theorem zzdigits_yes (s : ByteArray) (hd : Hid (Dig s)) (w : World) :
    Calls Try.prog 9 #[.string s] w fun e w' => e = .returned (.bool true) ∧ w' = w := by
  go_enter Try.func9, Try.ntmps9
  go_wp2_with (go_at_call 15; refine (digits_yes _ hd _).mono ?_; rintro e w' ⟨rfl, rfl⟩)
  go_ret
  exact ⟨rfl, rfl⟩

theorem ret_true {c : Prop} [Decidable c] (h : c) : Ending.returned (.bool (decide c)) = .returned (.bool true) := by rw [decide_eq_true h]

/-- A string of these bytes. -/
def str (l : List UInt8) : ByteArray := ⟨l.toArray⟩
theorem str_size (l : List UInt8) : (str l).size = l.length := by show l.toArray.size = _; simp
theorem str_at (l : List UInt8) (t : Nat) (h : t < (str l).size) : (str l)[t] = l[t]'(by rw [← str_size]; exact h) := rfl
theorem str_extract (l : List UInt8) (a b : Nat) : (str l).extract a b = str ((l.drop a).take (b - a)) := by
  apply ByteArray.ext
  show ((str l).extract a b).data = ((l.drop a).take (b - a)).toArray
  rw [ByteArray.data_extract]
  show l.toArray.extract a b = _
  simp [List.extract]
theorem str_digits {l : List UInt8} (h0 : l ≠ []) (h1 : l.length ≤ 1048576) (h : ∀ b ∈ l, 48 ≤ b.toNat ∧ b.toNat ≤ 57) : Dig (str l) := by
  refine ⟨?_, by rw [str_size]; exact h1, fun t ht => ?_⟩
  · rw [str_size]; exact List.length_pos_iff.2 h0
  · rw [str_at]; exact h _ (List.getElem_mem _)

/-- The whole part as the law asks it. -/
def Whole (a : ByteArray) : Prop := Dig a ∧ a.size ≤ 19 ∧ ∀ h : 0 < a.size, 1 < a.size → 48 < a[0].toNat
theorem whole_of {p m K : Nat} (h : Txt.Fin p m K) (hm : m ≤ 9223372036854775808) : Whole (str (Txt.wh p m (K - p))) := by
  have hf := Txt.few h hm
  have h1 := h.1
  have hl := Txt.wh_length p m (K - p)
  refine ⟨str_digits (fun e => by rw [e] at hl; simp at hl; omega) (by rw [hl]; omega) (Txt.wh_digits p m _), by rw [str_size, hl]; exact hf, fun h0 h2 => ?_⟩
  rw [str_size, hl] at h2
  obtain ⟨l, hh⟩ := Txt.wh_head p m (K - p) (by omega)
  have e : (str (Txt.wh p m (K - p)))[0] = Txt.dg m (p + (K - p) - 1) := by
    rw [str_at]
    simp only [hh, List.getElem_cons_zero]
  rw [e, show p + (K - p) - 1 = K - 1 by omega]
  exact Txt.top_pos h (by omega)

/-- What stands behind the sign, at p > 0: whole part, point, decimals. -/
theorem parts {p m K : Nat} (h : Txt.Fin p m K) (hp : 0 < p) (hp2 : p ≤ 65536) (hm : m ≤ 9223372036854775808) : ∃ (q : Nat) (a f : ByteArray),
    (str (Txt.suf p m K)).size = q + p + 1 ∧ (str (Txt.suf p m K)).extract 0 q = a ∧ (str (Txt.suf p m K)).extract (q + 1) (str (Txt.suf p m K)).size = f ∧ Whole a ∧ Dig f ∧ 1 ≤ q ∧ q ≤ 19 ∧
    ∀ h : q < (str (Txt.suf p m K)).size, (str (Txt.suf p m K))[q].toNat = 46 := by
  have hf := Txt.few h hm
  have h1 := h.1
  have hw := whole_of h hm
  obtain ⟨j, hj⟩ : ∃ j, K = p + (j + 1) := ⟨K - p - 1, by omega⟩
  have hsp := Txt.suf_split p m hp j
  have e1 : K - p = j + 1 := by omega
  rw [e1] at hw
  rw [hj, hsp]
  have hlw := Txt.wh_length p m (j + 1)
  have hls : (Txt.suf p m p).length = p := by rw [Txt.suf_length, if_neg (by omega)]; rfl
  refine ⟨j + 1, str (Txt.wh p m (j + 1)), str (Txt.suf p m p), ?_, ?_, ?_, hw, ?_, by omega, by omega, ?_⟩
  · rw [str_size]; simp [hlw, hls]; omega
  · rw [str_extract]
    simp [hlw]
  · rw [str_extract, str_size]
    congr 1
    have hd : (Txt.wh p m (j + 1) ++ 46 :: Txt.suf p m p).drop (j + 1 + 1) = Txt.suf p m p := by
      rw [List.drop_append, hlw]
      simp [hlw]
    rw [hd]
    apply List.take_of_length_le
    simp [hlw, hls]
    omega
  · exact str_digits (fun e => by rw [e] at hls; simp at hls; omega) (by rw [hls]; omega) (Txt.suf_digits p m p (Nat.le_refl _))
  · intro hlt
    have : (str (Txt.wh p m (j + 1) ++ 46 :: Txt.suf p m p))[j + 1] = 46 := by
      rw [str_at]
      rw [List.getElem_append_right (by rw [hlw]; omega)]
      simp [hlw]
    rw [this]; rfl

theorem sgn_true : Txt.sgn true = [45] := rfl
theorem sgn_false : Txt.sgn false = [] := rfl

set_option maxHeartbeats 1000000 in
theorem law4 (p : Nat) (u : Int) (hp : p ≤ 65536) (h1 : -9223372036854775808 ≤ u) (h2 : u ≤ 9223372036854775807) (w : World) :
    Calls Try.prog 4 #[.int .i32 (p : Int), .int .i64 u] w fun e w' => e = .returned (.bool true) ∧ Below w.heap.size w w' := by
  have d1 : decide ((p : Int) < 0) = false := decide_eq_false (by omega)
  have d2 : decide (65536 < (p : Int)) = false := decide_eq_false (by omega)
  obtain ⟨m, hm⟩ : ∃ m, Hid (m = u.natAbs) := ⟨_, rfl⟩
  obtain ⟨neg, hneg⟩ : ∃ neg, Hid (neg = decide (u < 0)) := ⟨_, rfl⟩
  have hm2 : m ≤ 9223372036854775808 := by rw [hm.out]; omega
  go_enter Try.func4, Try.ntmps4
  go_wp2_with fail
  refine (append_any p m neg u hp hm hneg h1 h2 0 _).mono ?_
  rintro e w1 ⟨K, g, cap, hfin, rfl, _, hg1, hg2, hcells, hbel⟩
  have Hfin : Hid (Txt.Fin p m K) := hfin
  have hconv : (convert 25 9 (.slice (some ⟨g, 0, none⟩) (Txt.sgn neg ++ Txt.suf p m K).length cap)).run Try.prog w1 = .ok (.string (str (Txt.sgn neg ++ Txt.suf p m K))) w1 :=
    run_convert_bytes_back (P := Try.prog) w1 25 9 5 ⟨g, 0, none⟩ cap (Txt.sgn neg ++ Txt.suf p m K) Try.underlying25 Try.underlying5 Try.underlying9 (fun j hj => by
      rw [addr_add, Nat.zero_add]
      exact hcells j hj)
  have hB : Hid (Below w.heap.size w w1) := ((Below.refl _ _).alloc (Nat.le_refl _) _).trans (hbel.mono (by simp))
  have hlenS : (Txt.sgn neg ++ Txt.suf p m K).length ≤ 1048576 := by
    have hf := Txt.few hfin hm2
    rw [List.length_append, Txt.suf_length]
    have : (Txt.sgn neg).length ≤ 1 := by cases neg <;> simp [Txt.sgn]
    split <;> omega
  clear hcells hg1 hg2 hbel hfin
  by_cases hu : u < 0
  · have hn : neg = true := by rw [hneg.out]; exact decide_eq_true hu
    subst hn
    have hsz : (str (Txt.sgn true ++ Txt.suf p m K)).size ≤ 1048576 := by rw [str_size]; exact hlenS
    have hs0 : 0 < (str (Txt.sgn true ++ Txt.suf p m K)).size := by rw [str_size, sgn_true]; simp
    have l1 : (str (Txt.sgn true ++ Txt.suf p m K))[0].toNat = 45 := rfl
    have hext : (str (Txt.sgn true ++ Txt.suf p m K)).extract 1 (str (Txt.sgn true ++ Txt.suf p m K)).size = str (Txt.suf p m K) := by
      rw [str_extract, str_size, sgn_true]
      simp
    generalize str (Txt.sgn true ++ Txt.suf p m K) = s at *
    generalize (Txt.sgn true ++ Txt.suf p m K).length = n at *
    have b0 : ((s[0].toNat : Int) == 45) = true := by simp [l1]
    clear l1
    by_cases hp0 : 0 < p
    · obtain ⟨q, a, f, e1, e2, e3, hw, hf, q1, q2, e4⟩ := parts Hfin.out hp0 hp hm2
      generalize str (Txt.suf p m K) = r at *
      have hqr : q < r.size := by omega
      have e5 := e4 hqr
      have hq : (r.size : Int) - (p : Int) = (q : Int) + 1 := by omega
      have g1 : p + 2 ≤ r.size := by omega
      have g2 : r.size ≤ 1048576 := by omega
      have b1 : ((r[q].toNat : Int) != 46) = false := by simp [e5]
      have HW : Hid (Whole a) := hw
      have HF : Hid (Dig f) := hf
      clear e1 e4 e5 hw hf
      go_wp2_with fail
      refine (zzdigits_yes _ HF _).mono ?_
      rintro e w2 ⟨rfl, rfl⟩
      go_wp2_with fail
      refine (zzdigits_yes _ HW.out.1 _).mono ?_
      rintro e w2 ⟨rfl, rfl⟩
      have k0 := HW.out.1.1
      have k1 := HW.out.2.1
      by_cases k2 : 1 < a.size
      · have k3 := HW.out.2.2 k0 k2
        have k4 : ((a[0].toNat : Int) == 48) = false := beq_eq_false_iff_ne.2 (by omega)
        go_wp2
        go_ret
        exact ⟨ret_true (by omega), hB⟩
      · go_wp2
        go_ret
        exact ⟨ret_true (by omega), hB⟩
    · have e0 : p = 0 := by omega
      subst e0
      have hw : Whole (str (Txt.suf 0 m K)) := by
        have := whole_of Hfin.out hm2
        rw [Txt.suf_zero]; exact this
      generalize str (Txt.suf 0 m K) = r at *
      have HW : Hid (Whole r) := hw
      clear hw
      go_wp2_with fail
      refine (zzdigits_yes _ HW.out.1 _).mono ?_
      rintro e w2 ⟨rfl, rfl⟩
      have k0 := HW.out.1.1
      have k1 := HW.out.2.1
      by_cases k2 : 1 < r.size
      · have k3 := HW.out.2.2 k0 k2
        have k4 : ((r[0].toNat : Int) == 48) = false := beq_eq_false_iff_ne.2 (by omega)
        go_wp2
        go_ret
        exact ⟨ret_true (by omega), hB⟩
      · go_wp2
        go_ret
        exact ⟨ret_true (by omega), hB⟩
  · have hn : neg = false := by rw [hneg.out]; exact decide_eq_false hu
    subst hn
    have hfst : 48 ≤ (Txt.dg m (K - 1)).toNat := (Txt.dg_range m (K - 1)).1
    obtain ⟨l, hh⟩ := Txt.suf_head p m K (by have := Hfin.out.1; omega)
    rw [sgn_false, List.nil_append] at hconv hlenS ⊢
    have hs0 : 0 < (str (Txt.suf p m K)).size := by rw [str_size, hh]; simp
    have l1 : 48 ≤ (str (Txt.suf p m K))[0].toNat := by
      have : (str (Txt.suf p m K))[0] = Txt.dg m (K - 1) := by
        rw [str_at]
        simp only [hh, List.getElem_cons_zero]
      rw [this]; exact hfst
    have hsz : (str (Txt.suf p m K)).size ≤ 1048576 := by rw [str_size]; exact hlenS
    clear hh hfst
    by_cases hp0 : 0 < p
    · obtain ⟨q, a, f, e1, e2, e3, hw, hf, q1, q2, e4⟩ := parts Hfin.out hp0 hp hm2
      generalize str (Txt.suf p m K) = r at *
      generalize (Txt.suf p m K).length = n at *
      have b0 : ((r[0].toNat : Int) == 45) = false := beq_eq_false_iff_ne.2 (by omega)
      have hqr : q < r.size := by omega
      have e5 := e4 hqr
      have hq : (r.size : Int) - (p : Int) = (q : Int) + 1 := by omega
      have g1 : p + 2 ≤ r.size := by omega
      have g2 : r.size ≤ 1048576 := by omega
      have b1 : ((r[q].toNat : Int) != 46) = false := by simp [e5]
      have HW : Hid (Whole a) := hw
      have HF : Hid (Dig f) := hf
      clear e1 e4 e5 hw hf
      go_wp2_with fail
      refine (zzdigits_yes _ HF _).mono ?_
      rintro e w2 ⟨rfl, rfl⟩
      go_wp2_with fail
      refine (zzdigits_yes _ HW.out.1 _).mono ?_
      rintro e w2 ⟨rfl, rfl⟩
      have k0 := HW.out.1.1
      have k1 := HW.out.2.1
      by_cases k2 : 1 < a.size
      · have k3 := HW.out.2.2 k0 k2
        have k4 : ((a[0].toNat : Int) == 48) = false := beq_eq_false_iff_ne.2 (by omega)
        go_wp2
        go_ret
        exact ⟨ret_true (by omega), hB⟩
      · go_wp2
        go_ret
        exact ⟨ret_true (by omega), hB⟩
    · have e0 : p = 0 := by omega
      subst e0
      have hw : Whole (str (Txt.suf 0 m K)) := by
        have := whole_of Hfin.out hm2
        rw [Txt.suf_zero]; exact this
      generalize str (Txt.suf 0 m K) = r at *
      generalize (Txt.suf 0 m K).length = n at *
      have b0 : ((r[0].toNat : Int) == 45) = false := beq_eq_false_iff_ne.2 (by omega)
      have HW : Hid (Whole r) := hw
      clear hw
      go_wp2_with fail
      refine (zzdigits_yes _ HW.out.1 _).mono ?_
      rintro e w2 ⟨rfl, rfl⟩
      have k0 := HW.out.1.1
      have k1 := HW.out.2.1
      by_cases k2 : 1 < r.size
      · have k3 := HW.out.2.2 k0 k2
        have k4 : ((r[0].toNat : Int) == 48) = false := beq_eq_false_iff_ne.2 (by omega)
        go_wp2
        go_ret
        exact ⟨ret_true (by omega), hB⟩
      · go_wp2
        go_ret
        exact ⟨ret_true (by omega), hB⟩
end Go.Proofs.Qxb6600163a
