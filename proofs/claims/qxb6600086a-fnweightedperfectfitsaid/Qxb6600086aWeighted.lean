/-
  spread.Weighted (10).
-/
import Derived.Test.Qxb6600086aSums
import Derived.Test.Qxb6600086aFops
import Derived.RegionTactic
import Derived.Outline
namespace Go.Proofs.Qxb6600086a
open Go.RowKit

/-- A float is stored as any one cell is (the kit lacks this one). -/
theorem run_store_float (P : Program) (w : World) (a : Addr) (m : Mode) (k : FloatKind) (x : Nat) : (store a (.float k x) m).run P w = stored P w a (.float k x) m := run_store P w a _ m rfl
attribute [local go_sem] run_store_float

/-- The least and the greatest of the first k counts; each is one of the n counts. -/
def MinMax (c : Nat → Nat) (n k lo hi : Nat) : Prop :=
  (∀ i, i < k → lo ≤ c i ∧ c i ≤ hi) ∧ (∃ i, i < n ∧ c i = lo) ∧ (∃ i, i < n ∧ c i = hi)

theorem MinMax.start {c : Nat → Nat} {n : Nat} (h : 0 < n) : MinMax c n 0 (c 0) (c 0) := ⟨fun i hi => by omega, ⟨0, h, rfl⟩, ⟨0, h, rfl⟩⟩
theorem MinMax.step {c : Nat → Nat} {n k lo hi : Nat} (h : MinMax c n k lo hi) (hk : k < n) : MinMax c n (k + 1) (if c k < lo then c k else lo) (if hi < c k then c k else hi) := by
  obtain ⟨h1, h2, h3⟩ := h
  refine ⟨fun i hi' => ?_, ?_, ?_⟩
  · by_cases e : i = k
    · subst e; constructor <;> split <;> omega
    · have := h1 i (by omega)
      constructor <;> split <;> omega
  · split
    · exact ⟨k, hk, rfl⟩
    · exact h2
  · split
    · exact ⟨k, hk, rfl⟩
    · exact h3

theorem MinMax.step1 {c : Nat → Nat} {n k lo hi : Nat} (h : MinMax c n k lo hi) (hk : k < n) (a : c k < lo) (b : hi < c k) : MinMax c n (k + 1) (c k) (c k) := by
  have := h.step hk; rwa [if_pos a, if_pos b] at this
theorem MinMax.step2 {c : Nat → Nat} {n k lo hi : Nat} (h : MinMax c n k lo hi) (hk : k < n) (a : c k < lo) (b : ¬ hi < c k) : MinMax c n (k + 1) (c k) hi := by
  have := h.step hk; rwa [if_pos a, if_neg b] at this
theorem MinMax.step3 {c : Nat → Nat} {n k lo hi : Nat} (h : MinMax c n k lo hi) (hk : k < n) (a : ¬ c k < lo) (b : hi < c k) : MinMax c n (k + 1) lo (c k) := by
  have := h.step hk; rwa [if_neg a, if_pos b] at this
theorem MinMax.step4 {c : Nat → Nat} {n k lo hi : Nat} (h : MinMax c n k lo hi) (hk : k < n) (a : ¬ c k < lo) (b : ¬ hi < c k) : MinMax c n (k + 1) lo hi := by
  have := h.step hk; rwa [if_neg a, if_neg b] at this

/-- What Weighted hands back. -/
def WOut (c : Nat → Nat) (n K p ch : Nat) (w : World) (e : Ending) (w' : World) : Prop :=
  ∃ lo hi : Nat, e = .returned (.agg #[.int .u64 (K : Int), .int .u64 (lo : Int), .int .u64 (hi : Int), .float .f64 p, .float .f64 ch]) ∧ MinMax c n n lo hi ∧ Below w.heap.size w w'

set_option maxHeartbeats 1000000 in
theorem weighted_zero (b off n cap : Nat) (a1 : Option Addr) (n1 cap1 : Nat) (c : Nat → Nat) (w : World) (hn0 : 0 < n) (hn : n ≤ 65536) (hc : Seg w b off n c) (hK : Hid (S c n = 0)) :
    Calls Try.prog 10 #[.slice (some ⟨b, off, none⟩) n cap, .slice a1 n1 cap1] w (WOut c n 0 0 0 w) := by
  have h0 := hc 0 hn0
  have hb := World.block_lt_of_cell? w _ h0
  simp only [Nat.add_zero] at hb h0
  have hnI : (0 : Int) < (n : Int) := by omega
  go_enter Try.func10, Try.ntmps10
  go_wp2
  go_region
  all_goals go_wp2
  go_loopw [25] (fun i wr => ∃ (k lo hi : Nat), k ≤ n ∧ i = .int .i64 k ∧ Hid (MinMax c n k lo hi) ∧ wr = ((w.alloc (.cells #[.int .u64 0, .int .u64 0, .int .u64 0, .float .f64 0, .float .f64 0] 30)).alloc (.cells #[.int .u64 (S c k : Int), .int .u64 (lo : Int), .int .u64 (hi : Int), .float .f64 0, .float .f64 0] 30)).drew) (fun i _ => n - (intOf i).toNat)
  case atStart => exact ⟨0, c 0, c 0, Nat.zero_le _, rfl, MinMax.start hn0, rfl⟩
  case round =>
    obtain ⟨k, lo, hi, hk, rfl, hmm, rfl⟩ := hrel
    have hSk : S c k ≤ 0 := by have := S_mono (f := c) hk; have := hK.out; omega
    clear h0
    by_cases hlt : k < n
    · have hcell := hc k hlt
      have hck : c k ≤ 0 := by have := S_le (f := c) hlt; have := hK.out; omega
      have hhi : ¬ hi < c k := by omega
      by_cases hlo : c k < lo
      · go_wp2
        go_roundw
        case rel => exact ⟨k + 1, c k, hi, by omega, by go_num, hmm.out.step2 hlt hlo hhi, rfl⟩
        case measure => simp [intOf]; omega
      · go_wp2
        go_roundw
        case rel => exact ⟨k + 1, lo, hi, by omega, by go_num, hmm.out.step4 hlt hlo hhi, rfl⟩
        case measure => simp [intOf]; omega
    · have e : k = n := by omega
      subst e
      have e2 : S c k = 0 := by omega
      go_wp2
      refine bodyPost_ret (v := .agg #[.int .u64 0, .int .u64 (lo : Int), .int .u64 (hi : Int), .float .f64 0, .float .f64 0]) (by simp [results, Try.results10, go_sem]) rfl ?_
      exact ⟨lo, hi, rfl, hmm.out, (((Below.refl _ _).alloc (Nat.le_refl _) _).alloc (by simp) _).drew⟩

/-- What the last loop's float operations come to: none is invalid. -/
def FlOk (c wt : Nat → Nat) (n K W : Nat) (e q d dd t P C : Nat → Nat) : Prop :=
  P 0 = 0 ∧ C 0 = 0 ∧ ∀ i, i < n → Ieee.double.mul (Fl.fl K) (Fl.fl (wt i)) = some (Fl.fl (K * wt i)) ∧ Ieee.double.div (Fl.fl (K * wt i)) (Fl.fl W) = some (e i) ∧
    Ieee.double.div (Fl.fl (c i)) (e i) = some (q i) ∧ Ieee.double.sub (Fl.fl (c i)) (e i) = some (d i) ∧ Ieee.double.mul (d i) (d i) = some (dd i) ∧ Ieee.double.div (dd i) (e i) = some (t i) ∧
    P i ≤ 9218868437227405312 ∧ q i ≤ 9218868437227405312 ∧ P (i + 1) = max (P i) (q i) ∧ Ieee.double.add (C i) (t i) = some (C (i + 1))

theorem floatOfInt_nat (m : Nat) : floatOfInt .f64 (m : Int) = Fl.fl m := by
  unfold floatOfInt FloatKind.nearest FloatKind.encode Fl.fl
  have h1 : decide ((m : Int) < 0) = false := decide_eq_false (by omega)
  rw [h1, Int.natAbs_natCast]
  rfl

theorem run_max_float {P : Program} (w : World) (ts : Array TypeId) (ty : TypeId) {x y z : Nat} (hx : x ≤ 9218868437227405312) (hy : y ≤ 9218868437227405312) (hz : z = max x y) :
    (Builtin.max_ ts ty #[.float .f64 x, .float .f64 y]).run P w = .ok (.float .f64 z) w := by
  subst hz
  have ho : FloatKind.f64.format.order x y = some (compare x y) := Fl.order_eq hx hy
  have h1 : Builtin.max2 (.float .f64 x) (.float .f64 y) = pure (.float .f64 (max x y)) := by
    simp only [Builtin.max2, ho]
    rcases Nat.lt_trichotomy x y with h | h | h
    · have : compare x y = .lt := by simp only [compare, compareOfLessAndEq, if_pos h]
      rw [this, Nat.max_eq_right (Nat.le_of_lt h)]
    · subst h
      have : compare x x = .eq := by simp only [compare, compareOfLessAndEq]; rw [if_neg (Nat.lt_irrefl _)]; rfl
      rw [this, Nat.max_self]
      simp
    · have : compare x y = .gt := by simp only [compare, compareOfLessAndEq]; rw [if_neg (by omega), if_neg (by omega)]
      rw [this, Nat.max_eq_left (Nat.le_of_lt h)]
  simp [Builtin.max_, h1]

/-- The runs of one round's float operations. -/
theorem FlOk.runs {c wt : Nat → Nat} {n K W : Nat} {e q d dd t P C : Nat → Nat} (h : FlOk c wt n K W e q d dd t P C) {i : Nat} (hi : i < n) :
    ∃ x e' q' d' dd' t' : Nat,
    (∀ w, (binOp .mul 28 (.float .f64 (floatOfInt .f64 (K : Int))) (.float .f64 (floatOfInt .f64 (wt i : Int)))).run Try.prog w = .ok (.float .f64 x) w) ∧
    (∀ w, (binOp .quo 28 (.float .f64 x) (.float .f64 (floatOfInt .f64 (W : Int)))).run Try.prog w = .ok (.float .f64 e') w) ∧
    (∀ w, (binOp .quo 28 (.float .f64 (floatOfInt .f64 (c i : Int))) (.float .f64 e')).run Try.prog w = .ok (.float .f64 q') w) ∧
    (∀ w ts ty, (Builtin.max_ ts ty #[.float .f64 (P i), .float .f64 q']).run Try.prog w = .ok (.float .f64 (P (i + 1))) w) ∧
    (∀ w, (binOp .sub 28 (.float .f64 (floatOfInt .f64 (c i : Int))) (.float .f64 e')).run Try.prog w = .ok (.float .f64 d') w) ∧
    (∀ w, (binOp .mul 28 (.float .f64 d') (.float .f64 d')).run Try.prog w = .ok (.float .f64 dd') w) ∧
    (∀ w, (binOp .quo 28 (.float .f64 dd') (.float .f64 e')).run Try.prog w = .ok (.float .f64 t') w) ∧
    (∀ w, (binOp .add 28 (.float .f64 (C i)) (.float .f64 t')).run Try.prog w = .ok (.float .f64 (C (i + 1))) w) := by
  obtain ⟨_, _, h⟩ := h
  obtain ⟨h1, h2, h3, h4, h5, h6, h7, h8, h9, h10⟩ := h i hi
  simp only [floatOfInt_nat]
  exact ⟨_, _, _, _, _, _, fun w => run_float_arith w .mul 28 .f64 _ _ _ h1, fun w => run_float_arith w .quo 28 .f64 _ _ _ h2, fun w => run_float_arith w .quo 28 .f64 _ _ _ h3, fun w ts ty => run_max_float w ts ty h7 h8 h9, fun w => run_float_arith w .sub 28 .f64 _ _ _ h4, fun w => run_float_arith w .mul 28 .f64 _ _ _ h5, fun w => run_float_arith w .quo 28 .f64 _ _ _ h6, fun w => run_float_arith w .add 28 .f64 _ _ _ h10⟩

set_option maxHeartbeats 1000000 in
theorem weighted_nil (b off n cap : Nat) (c : Nat → Nat) (K : Nat) (e q d dd t P C : Nat → Nat) (w : World) (hn0 : 0 < n) (hn : n ≤ 65536) (hc : Seg w b off n c) (hK : Hid (K = S c n)) (hK0 : 0 < K) (hK2 : K ≤ 9007199254740992)
    (hfl : Hid (FlOk c (fun _ => 1) n K n e q d dd t P C)) :
    Calls Try.prog 10 #[.slice (some ⟨b, off, none⟩) n cap, .slice none 0 0] w (WOut c n K (P n) (C n) w) := by
  have h0 := hc 0 hn0
  have hb := World.block_lt_of_cell? w _ h0
  simp only [Nat.add_zero] at hb h0
  have hnI : (0 : Int) < (n : Int) := by omega
  go_enter Try.func10, Try.ntmps10
  go_wp2
  go_region
  all_goals go_wp2
  go_loopw [25] (fun i wr => ∃ (k lo hi : Nat), k ≤ n ∧ i = .int .i64 k ∧ Hid (MinMax c n k lo hi) ∧ wr = ((w.alloc (.cells #[.int .u64 0, .int .u64 0, .int .u64 0, .float .f64 0, .float .f64 0] 30)).alloc (.cells #[.int .u64 (S c k : Int), .int .u64 (lo : Int), .int .u64 (hi : Int), .float .f64 0, .float .f64 0] 30)).drew) (fun i _ => n - (intOf i).toNat)
  case atStart => exact ⟨0, c 0, c 0, Nat.zero_le _, rfl, MinMax.start hn0, rfl⟩
  case round =>
    obtain ⟨k, lo, hi, hk, rfl, hmm, rfl⟩ := hrel
    have hSk : S c k ≤ 9007199254740992 := by have := S_mono (f := c) hk; have := hK.out; omega
    clear h0
    by_cases hlt : k < n
    · have hcell := hc k hlt
      have hck : c k ≤ 9007199254740992 := by have := S_le (f := c) hlt; have := hK.out; omega
      by_cases hlo : c k < lo
      · by_cases hhi : hi < c k
        · go_wp2
          go_roundw
          case rel => exact ⟨k + 1, c k, c k, by omega, by go_num, hmm.out.step1 hlt hlo hhi, rfl⟩
          case measure => simp [intOf]; omega
        · go_wp2
          go_roundw
          case rel => exact ⟨k + 1, c k, hi, by omega, by go_num, hmm.out.step2 hlt hlo hhi, rfl⟩
          case measure => simp [intOf]; omega
      · by_cases hhi : hi < c k
        · go_wp2
          go_roundw
          case rel => exact ⟨k + 1, lo, c k, by omega, by go_num, hmm.out.step3 hlt hlo hhi, rfl⟩
          case measure => simp [intOf]; omega
        · go_wp2
          go_roundw
          case rel => exact ⟨k + 1, lo, hi, by omega, by go_num, hmm.out.step4 hlt hlo hhi, rfl⟩
          case measure => simp [intOf]; omega
    · have e : k = n := by omega
      subst e
      rw [← hK.out]
      have hz : ((K : Int) == 0) = false := beq_eq_false_iff_ne.2 (by omega)
      clear hSk hlt
      go_wp2
      go_loopw [66] (fun i wr => ∃ (j : Nat), j ≤ k ∧ i = .int .i64 j ∧ wr = ((w.alloc (.cells #[.int .u64 0, .int .u64 0, .int .u64 0, .float .f64 0, .float .f64 0] 30)).alloc (.cells #[.int .u64 (K : Int), .int .u64 (lo : Int), .int .u64 (hi : Int), .float .f64 (P j), .float .f64 (C j)] 30)).drew) (fun i _ => k - (intOf i).toNat)
      case atStart => exact ⟨0, Nat.zero_le _, rfl, by rw [hfl.out.1, hfl.out.2.1]⟩
      case round =>
        obtain ⟨j, hj, rfl, rfl⟩ := hrel
        by_cases hlt : j < k
        · have hcell := hc j hlt
          obtain ⟨x', e', q', d', dd', t', m1, m2, m3, m4, m5, m6, m7, m8⟩ := hfl.out.runs hlt
          have m1' : ∀ w, (binOp .mul 28 (.float .f64 (floatOfInt .f64 (K : Int))) (.float .f64 (floatOfInt .f64 1))).run Try.prog w = .ok (.float .f64 x') w := m1
          clear m1
          go_wp2
          go_roundw
          case rel => exact ⟨j + 1, by omega, by go_num, rfl⟩
          case measure => simp [intOf]; omega
        · have e : j = k := by omega
          subst e
          go_wp2
          refine bodyPost_ret (v := .agg #[.int .u64 (K : Int), .int .u64 (lo : Int), .int .u64 (hi : Int), .float .f64 (P j), .float .f64 (C j)]) (by simp [results, Try.results10, go_sem]) rfl ?_
          exact ⟨lo, hi, rfl, hmm.out, (((Below.refl _ _).alloc (Nat.le_refl _) _).alloc (by simp) _).drew⟩

end Go.Proofs.Qxb6600086a
