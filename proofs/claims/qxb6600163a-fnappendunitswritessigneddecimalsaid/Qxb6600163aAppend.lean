/-
  magnitude (13), AppendUnits (7).
-/
import Derived.Test.Qxb6600163aProg
import Derived.Test.Qxb6600163aPlain
import Derived.WalkKit
import Derived.WalkSpells
import Derived.WalkLawsBesides
import Derived.Deep.OwnRows
import Derived.Outline
namespace Go.Proofs.Qxb6600163a
open Go.RowKit

theorem ret_u64 {a b : Int} (h : a = b) : Ending.returned (.int .u64 a) = .returned (.int .u64 b) := by rw [h]

theorem wrap_neg (u : Int) (h1 : -9223372036854775808 ≤ u) (h : u < 0) : IntKind.u64.wrap (-IntKind.u64.wrap u) = (u.natAbs : Int) := by
  simp only [IntKind.wrap, IntKind.bits, IntKind.signed]
  simp
  omega

set_option maxHeartbeats 400000 in
theorem mag_any (u : Int) (m : Nat) (hm : Hid (m = u.natAbs)) (h1 : -9223372036854775808 ≤ u) (h2 : u ≤ 9223372036854775807) (w : World) :
    Calls Try.prog 13 #[.int .i64 u] w fun e w' => e = .returned (.int .u64 (m : Int)) ∧ w' = w := by
  by_cases h : u < 0
  · go_enter Try.func13, Try.ntmps13
    go_wp2
    go_ret
    exact ⟨ret_u64 (by rw [hm.out]; exact wrap_neg u h1 h), rfl⟩
  · go_enter Try.func13, Try.ntmps13
    go_wp2
    go_ret
    exact ⟨ret_u64 (by rw [hm.out]; omega), rfl⟩

/-- A buffer of N bytes whose cells from I on are l. -/
def Buf (arr : Array Value) (N I : Nat) (l : List UInt8) : Prop :=
  arr.size = N ∧ (∀ i, i < N → ∃ z, arr[i]? = some (.int .u8 z)) ∧ I + l.length = N ∧ ∀ j (h : j < l.length), arr[I + j]? = some (.int .u8 (l[j].toNat : Int))
theorem Buf.push {arr : Array Value} {N I : Nat} {l : List UInt8} (h : Buf arr N (I + 1) l) {b : UInt8} {x : Int} (hx : x = (b.toNat : Int)) : Buf (arr.setIfInBounds I (.int .u8 x)) N I (b :: l) := by
  subst hx
  obtain ⟨h1, h2, h3, h4⟩ := h
  refine ⟨by rw [Array.size_setIfInBounds]; exact h1, fun i hi => ?_, by simp; omega, fun j hj => ?_⟩
  · rw [Array.getElem?_setIfInBounds]
    split
    · rw [if_pos (by omega)]; exact ⟨_, rfl⟩
    · exact h2 i hi
  · rw [Array.getElem?_setIfInBounds]
    match j, hj with
    | 0, _ => rw [Nat.add_zero, if_pos rfl, if_pos (by omega)]; rfl
    | j + 1, hj =>
      rw [if_neg (by omega), show I + (j + 1) = I + 1 + j by omega, h4 j (by simpa using hj)]
      rfl
theorem Buf.made (N : Nat) : Buf (madeCells #[.int .u8 0] N) N N [] :=
  ⟨size_madeCells _ _, fun i h => ⟨0, by simp [madeCells, h, Nat.mod_one]⟩, by simp, fun j hj => by simp at hj⟩

/-- Every round so far had to be. -/
def Cont (p m k : Nat) : Prop := ∀ j, j < k → j ≤ p ∨ 0 < m / 10 ^ j
theorem Cont.start (p m : Nat) : Cont p m 0 := fun j h => by omega
theorem Cont.step {p m k : Nat} (h : Cont p m k) (hk : k ≤ p ∨ 0 < m / 10 ^ k) : Cont p m (k + 1) := fun j hj => by
  by_cases e : j = k
  · subst e; exact hk
  · exact h j (by omega)
theorem le_of_pos {m k : Nat} (hm : m ≤ 9223372036854775808) (h : 0 < m / 10 ^ k) : k ≤ 18 ∧ 10 ^ k ≤ m := by
  have hp : 0 < 10 ^ k := Nat.pow_pos (by omega)
  have h1 : 10 ^ k ≤ m := by
    have := (Nat.le_div_iff_mul_le hp).1 (show 1 ≤ m / 10 ^ k by omega)
    omega
  refine ⟨?_, h1⟩
  have : k < 19 := by
    apply (Nat.pow_lt_pow_iff_right (a := 10) (by omega)).1
    have : (10 : Nat) ^ 19 = 10000000000000000000 := by decide
    omega
  omega
/-- There is room for two bytes more at a round's head, and for one behind the last. -/
theorem room {p m k I N : Nat} {arr : Array Value} (hm : m ≤ 9223372036854775808) (hN : p + 22 ≤ N) (hb : Buf arr N I (Txt.suf p m k)) (hk : k ≤ p ∨ 0 < m / 10 ^ k) : 2 ≤ I ∧ k < p + 19 ∧ I ≤ N := by
  have h1 := hb.2.2.1
  rw [Txt.suf_length] at h1
  rcases hk with h | h
  · rw [if_neg (by omega)] at h1; omega
  · have := (le_of_pos hm h).1
    split at h1 <;> omega
theorem room_end {p m k I N : Nat} {arr : Array Value} (hm : m ≤ 9223372036854775808) (hN : p + 22 ≤ N) (hb : Buf arr N I (Txt.suf p m k)) (hc : Cont p m k) : 1 ≤ I ∧ k ≤ p + 19 ∧ I ≤ N := by
  have h1 := hb.2.2.1
  rw [Txt.suf_length] at h1
  by_cases h0 : k = 0
  · subst h0; simp at h1; omega
  · rcases hc (k - 1) (by omega) with h | h
    · split at h1 <;> omega
    · have := (le_of_pos hm h).1
      split at h1 <;> omega
theorem fin_of {p m k : Nat} (hc : Cont p m k) (hp : p < k) (h0 : m / 10 ^ k = 0) : Txt.Fin p m k := by
  have hk : 0 < 10 ^ k := Nat.pow_pos (by omega)
  refine ⟨hp, (Nat.div_eq_zero_iff_lt hk).1 h0, ?_⟩
  rcases hc (k - 1) (by omega) with h | h
  · left; omega
  · right
    have hk1 : 0 < 10 ^ (k - 1) := Nat.pow_pos (by omega)
    have := (Nat.le_div_iff_mul_le hk1).1 (show 1 ≤ m / 10 ^ (k - 1) by omega)
    omega
theorem div_step (m k : Nat) : m / 10 ^ k / 10 = m / 10 ^ (k + 1) := by rw [Nat.div_div_eq_div_mul, Nat.pow_succ]

/-- A block of 48 zero bytes. -/
theorem zero48 (a : Array Value) (h : a = Array.replicate 48 (.int .u8 0)) : Buf a 48 48 [] := by
  subst h
  exact ⟨by simp, fun i hi => ⟨0, by simp [hi]⟩, by simp, fun j hj => by simp at hj⟩

theorem left_step {L m k : Nat} (h : L = m / 10 ^ k) : Value.int .u64 ((L : Int) / 10) = .int .u64 ((m / 10 ^ (k + 1) : Nat) : Int) := by
  rw [← div_step, ← h]; rfl
theorem dig_step {L m k : Nat} (h : L = m / 10 ^ k) : 48 + (L : Int) % 10 = ((Txt.dg m k).toNat : Int) := by
  rw [Txt.dg_toNat, ← h]; omega
theorem Buf.plain {arr : Array Value} {N J p m k : Nat} (h : Buf arr N (J + 1) (Txt.suf p m k)) (hk : ¬ (k = p ∧ 0 < k)) {L : Nat} (hL : L = m / 10 ^ k) : Buf (arr.setIfInBounds J (.int .u8 (48 + (L : Int) % 10))) N J (Txt.suf p m (k + 1)) := by
  rw [Txt.suf_plain p m k hk]
  exact h.push (dig_step hL)
theorem Buf.point {arr : Array Value} {N J p m k : Nat} (h : Buf arr N (J + 2) (Txt.suf p m k)) (hk : k = p ∧ 0 < k) {L : Nat} (hL : L = m / 10 ^ k) : Buf ((arr.setIfInBounds (J + 1) (.int .u8 46)).setIfInBounds J (.int .u8 (48 + (L : Int) % 10))) N J (Txt.suf p m (k + 1)) := by
  rw [Txt.suf_point p m k hk.1 hk.2]
  exact (h.push (b := 46) rfl).push (dig_step hL)

/-- What AppendUnits(nil, u) hands back. -/
def AppOut (p m : Nat) (neg : Bool) (w : World) (e : Ending) (w' : World) : Prop :=
  ∃ K g cap, Txt.Fin p m K ∧ e = .returned (.slice (some ⟨g, 0, none⟩) (Txt.sgn neg ++ Txt.suf p m K).length cap) ∧ (Txt.sgn neg ++ Txt.suf p m K).length ≤ cap ∧ w.heap.size ≤ g ∧ g < w'.heap.size ∧
    (∀ j (h : j < (Txt.sgn neg ++ Txt.suf p m K).length), w'.cell? ⟨g, j, none⟩ = some (.int .u8 ((Txt.sgn neg ++ Txt.suf p m K)[j].toNat : Int))) ∧ Below w.heap.size w w'

theorem Try.info5 : (Try.prog.info? 5).map (fun i => (i.zero, i.size, i.bytes)) = some (some (.int .u8 0), 1, 1) := by kernel_rfl

/-- The bytes as cells. -/
def cellsOf (l : List UInt8) : List Value := l.map fun b => .int .u8 (b.toNat : Int)
theorem cellsOf_length (l : List UInt8) : (cellsOf l).length = l.length := by simp [cellsOf]
theorem cellsOf_at (l : List UInt8) (j : Nat) (h : j < l.length) : (cellsOf l)[j]? = some (.int .u8 (l[j].toNat : Int)) := by simp [cellsOf, h]
theorem cellsOf_one (l : List UInt8) : ∀ u ∈ cellsOf l, u.oneCell' = true := by
  intro u hu
  simp only [cellsOf, List.mem_map] at hu
  obtain ⟨b, _, rfl⟩ := hu
  rfl
theorem addr_add (b o j : Nat) : (⟨b, o, none⟩ : Addr).add j = ⟨b, o + j, none⟩ := by unfold Addr.add; split <;> simp_all
theorem Buf.news {arr : Array Value} {N I : Nat} {l : List UInt8} (h : Buf arr N I l) (W : World) (T g : Nat) (hg : g = W.heap.size) : ∀ j u, (cellsOf l)[j]? = some u → (W.alloc (.cells arr T)).cell? ((⟨g, I, none⟩ : Addr).add j) = some u := by
  intro j u hj
  have hlt : j < l.length := by
    have := (List.getElem?_eq_some_iff.1 hj).1
    rwa [cellsOf_length] at this
  rw [addr_add, World.cell?_alloc_at _ _ _ _ hg, h.2.2.2 j hlt, ← hj, cellsOf_at l j hlt]
theorem Buf.news2 {arr : Array Value} {N I : Nat} {l : List UInt8} (h : Buf arr N I l) : ∀ j u, (cellsOf l)[j]? = some u → arr[I + j]? = some u := by
  intro j u hj
  have hlt : j < l.length := by
    have := (List.getElem?_eq_some_iff.1 hj).1
    rwa [cellsOf_length] at this
  rw [h.2.2.2 j hlt, ← hj, cellsOf_at l j hlt]
theorem app_close {p m k n : Nat} {neg : Bool} {w W w1 : World} {v' : Value} {l : List UInt8} (hfin : Txt.Fin p m k) (hl : l = Txt.sgn neg ++ Txt.suf p m k) (hn : n = l.length)
    (hown : w1.ownsRow w.heap.size 5 1 v' n (cellsOf l)) (hgrow : W.grownBy w1 (Value.slice none 0 0).ownBlock) (hB : Below w.heap.size w W) : AppOut p m neg w (.returned v') w1 := by
  subst hn hl
  have hpos : 0 < (Txt.sgn neg ++ Txt.suf p m k).length := by
    rw [List.length_append, Txt.suf_length]
    have := hfin.1
    omega
  have hbel : Below w.heap.size w w1 := hB.grown hgrow hB.size (fun k hk => by cases hk)
  rcases hown.2 with ⟨_, h0⟩ | ⟨g, cap, cur, rfl, hbase, hg, hcap, _⟩
  · omega
  · refine ⟨k, g, cap, hfin, rfl, hcap, hbase, ?_, fun j hj => ?_, hbel⟩
    · exact (Array.getElem?_eq_some_iff.1 hg).1
    · rw [hown.cellAt j (by omega)]
      exact cellsOf_at _ j hj

set_option maxHeartbeats 1000000 in
theorem append_small (p m : Nat) (neg : Bool) (u : Int) (hp : p ≤ 26) (hm : Hid (m = u.natAbs)) (hneg : Hid (neg = decide (u < 0))) (h1 : -9223372036854775808 ≤ u) (h2 : u ≤ 9223372036854775807) (rule : Int) (w : World) :
    Calls Try.prog 7 #[.agg #[.string ByteArray.empty, .int .i32 (p : Int), .int .i64 rule], .slice none 0 0, .int .i64 u] w (AppOut p m neg w) := by
  have hm2 : m ≤ 9223372036854775808 := by rw [hm.out]; omega
  have d1 : decide (48 < (p : Int) + 22) = false := decide_eq_false (by omega)
  go_enter Try.func7, Try.ntmps7
  go_wp2_with (go_at_call 13; refine (mag_any _ m hm h1 h2 _).mono ?_; rintro e w' ⟨rfl, rfl⟩)
  go_loopw [7, 11, 12] (fun t i q wr => ∃ (k I : Nat) (arr : Array Value), q = .int .i64 k ∧ t = .int .u64 ((m / 10 ^ k : Nat) : Int) ∧ i = .int .i64 I ∧ Hid (Buf arr 48 I (Txt.suf p m k)) ∧ Hid (Cont p m k) ∧ wr = (w.alloc (.cells #[.string ByteArray.empty, .int .i32 (p : Int), .int .i64 rule] 24)).alloc (.cells arr 36)) (fun _ _ q _ => p + 20 - (intOf q).toNat)
  case atStart => exact ⟨0, 48, _, rfl, by simp, rfl, zero48 _ rfl, Cont.start p m, rfl⟩
  case round =>
    obtain ⟨k, I, arr, rfl, rfl, rfl, hb, hc, rfl⟩ := hrel
    obtain ⟨L, hL⟩ : ∃ L, Hid (L = m / 10 ^ k) := ⟨_, rfl⟩
    have hL2 : L ≤ 9223372036854775808 := by rw [hL.out]; exact Nat.le_trans (Nat.div_le_self _ _) hm2
    rw [← hL.out]
    by_cases hk : k ≤ p ∨ 0 < L
    · obtain ⟨hI, hkp, hI2⟩ := room hm2 (by omega) hb.out (by rw [← hL.out]; exact hk)
      have hsz : arr.size = 48 := hb.out.1
      have hc' : Hid (Cont p m (k + 1)) := hc.out.step (by rw [← hL.out]; exact hk)
      by_cases hpt : k = p ∧ 0 < k
      · obtain ⟨J, rfl⟩ : ∃ J, I = J + 2 := ⟨I - 2, by omega⟩
        have hb' : Hid (Buf ((arr.setIfInBounds (J + 1) (.int .u8 46)).setIfInBounds J (.int .u8 (48 + (L : Int) % 10))) 48 J (Txt.suf p m (k + 1))) := hb.out.point hpt hL.out
        obtain ⟨z, hz⟩ := hb.out.2.1 (J + 1) (by omega)
        obtain ⟨z2, hz2⟩ := hb.out.2.1 J (by omega)
        have hz3 : ∀ v, (arr.setIfInBounds (J + 1) v)[J]? = some (.int .u8 z2) := fun v => by rw [Array.getElem?_setIfInBounds, if_neg (by omega)]; exact hz2
        have e1 : ((k : Int) == (p : Int)) = true := beq_iff_eq.2 (by omega)
        have e2 : 0 < k := hpt.2
        have e3 : k ≤ p := by omega
        clear hk hpt
        go_wp2
        go_roundw
        case rel => exact ⟨k + 1, J, _, by go_num, left_step hL.out, by go_num, hb', hc', rfl⟩
        case measure => simp [intOf]; omega
      · obtain ⟨J, rfl⟩ : ∃ J, I = J + 1 := ⟨I - 1, by omega⟩
        have hb' : Hid (Buf (arr.setIfInBounds J (.int .u8 (48 + (L : Int) % 10))) 48 J (Txt.suf p m (k + 1))) := hb.out.plain hpt hL.out
        obtain ⟨z, hz⟩ := hb.out.2.1 J (by omega)
        by_cases hkp2 : k = p
        · have e1 : ((k : Int) == (p : Int)) = true := beq_iff_eq.2 (by omega)
          have e2 : k ≤ 0 := by omega
          have e3 : k ≤ p := by omega
          clear hk hpt hkp2
          go_wp2
          go_roundw
          case rel => exact ⟨k + 1, J, _, by go_num, left_step hL.out, by go_num, hb', hc', rfl⟩
          case measure => simp [intOf]; omega
        · have e1 : ((k : Int) == (p : Int)) = false := beq_eq_false_iff_ne.2 (by omega)
          by_cases hle : k ≤ p
          · clear hk hpt hkp2
            go_wp2
            go_roundw
            case rel => exact ⟨k + 1, J, _, by go_num, left_step hL.out, by go_num, hb', hc', rfl⟩
            case measure => simp [intOf]; omega
          · have e2 : 0 < L := by omega
            clear hk hpt hkp2
            go_wp2
            go_roundw
            case rel => exact ⟨k + 1, J, _, by go_num, left_step hL.out, by go_num, hb', hc', rfl⟩
            case measure => simp [intOf]; omega
    · have hfin : Hid (Txt.Fin p m k) := fin_of hc.out (by omega) (by rw [← hL.out]; omega)
      obtain ⟨hI, hkp, hI2⟩ := room_end hm2 (by omega) hb.out hc.out
      have hsz : arr.size = 48 := hb.out.1
      have e1 : p < k := by omega
      have e2 : L ≤ 0 := by omega
      clear hk
      by_cases hu : u < 0
      · obtain ⟨J, rfl⟩ : ∃ J, I = J + 1 := ⟨I - 1, by omega⟩
        obtain ⟨z, hz⟩ := hb.out.2.1 J (by omega)
        have hb' : Hid (Buf (arr.setIfInBounds J (.int .u8 45)) 48 J (Txt.sgn true ++ Txt.suf p m k)) := hb.out.push (b := 45) rfl
        have du : Hid (neg = true) := by show _ = _; rw [hneg.out]; exact decide_eq_true hu
        obtain ⟨i0, hi, hz0, hz1, hz2⟩ := info_parts Try.info5
        have hlen : Hid (48 - J = (Txt.sgn true ++ Txt.suf p m k).length) := by show _ = _; have := hb'.out.2.2.1; omega
        have hcl : Hid (∀ v' w1, w1.ownsRow w.heap.size 5 1 v' (48 - J) (cellsOf (Txt.sgn true ++ Txt.suf p m k)) → ((w.alloc (.cells #[.string ByteArray.empty, .int .i32 (p : Int), .int .i64 rule] 24)).alloc (.cells (arr.setIfInBounds J (.int .u8 45)) 36)).grownBy w1 (Value.slice none 0 0).ownBlock → AppOut p m neg w (.returned v') w1) := fun v' w1 ho hg => app_close hfin.out (by rw [du.out]) hlen.out ho hg (((Below.refl _ _).alloc (Nat.le_refl _) _).alloc (by simp) _)
        have hnews : Hid (∀ j u, (cellsOf (Txt.sgn true ++ Txt.suf p m k))[j]? = some u → ((w.alloc (.cells #[.string ByteArray.empty, .int .i32 (p : Int), .int .i64 rule] 24)).alloc (.cells (arr.setIfInBounds J (.int .u8 45)) 36)).cell? ((⟨w.heap.size + 1, J, none⟩ : Addr).add j) = some u) := hb'.out.news _ _ _ (by simp)
        clear hb hb' hc
        go_wp2_with (at_builtin; refine wpList_append_own _ rfl (.tmp 71) (.tmp 74) 25 rfl w.heap.size 5 i0 (.int .u8 0) 1 1 Try.underlying25 hi hz0 hz1 hz2 rfl (by decide) _ _ _ rfl (World.ownsRow_nil _ _ _ _) ⟨w.heap.size + 1, J, none⟩ (48 - J) (48 - J) (cellsOf (Txt.sgn true ++ Txt.suf p m k)) rfl ?c1 ?c2 (cellsOf_one _) ?c3 ?c4 ?c5 ?_)
        case c1 => rw [cellsOf_length, ← hlen.out]; omega
        case c2 => exact hnews.out
        case c3 => unfold maxLen; omega
        case c4 => omega
        case c5 => simp; omega
        intro v' w1 hown hgrow _
        have HO := hcl.out v' w1 hown hgrow
        have HO' : Hid (AppOut p m neg w (.returned v') w1) := HO
        clear hown hgrow HO
        go_wp2
        go_ret
        exact HO'
      · have du : Hid (neg = false) := by show _ = _; rw [hneg.out]; exact decide_eq_false hu
        have hb' : Hid (Buf arr 48 I (Txt.sgn false ++ Txt.suf p m k)) := hb
        have hI3 : I < 48 := by have := hb.out.2.2.1; rw [Txt.suf_length] at this; omega
        obtain ⟨i0, hi, hz0, hz1, hz2⟩ := info_parts Try.info5
        have hlen : Hid (48 - I = (Txt.sgn false ++ Txt.suf p m k).length) := by show _ = _; have := hb'.out.2.2.1; omega
        have hcl : Hid (∀ v' w1, w1.ownsRow w.heap.size 5 1 v' (48 - I) (cellsOf (Txt.sgn false ++ Txt.suf p m k)) → ((w.alloc (.cells #[.string ByteArray.empty, .int .i32 (p : Int), .int .i64 rule] 24)).alloc (.cells arr 36)).grownBy w1 (Value.slice none 0 0).ownBlock → AppOut p m neg w (.returned v') w1) := fun v' w1 ho hg => app_close hfin.out (by rw [du.out]) hlen.out ho hg (((Below.refl _ _).alloc (Nat.le_refl _) _).alloc (by simp) _)
        have hnews : Hid (∀ j u, (cellsOf (Txt.sgn false ++ Txt.suf p m k))[j]? = some u → ((w.alloc (.cells #[.string ByteArray.empty, .int .i32 (p : Int), .int .i64 rule] 24)).alloc (.cells arr 36)).cell? ((⟨w.heap.size + 1, I, none⟩ : Addr).add j) = some u) := hb'.out.news _ _ _ (by simp)
        have hnews2 : Hid (∀ j u, (cellsOf (Txt.sgn false ++ Txt.suf p m k))[j]? = some u → arr[I + j]? = some u) := hb'.out.news2
        clear hb hb' hc
        go_wp2_with (at_builtin; refine wpList_append_own _ rfl (.tmp 71) (.tmp 74) 25 rfl w.heap.size 5 i0 (.int .u8 0) 1 1 Try.underlying25 hi hz0 hz1 hz2 rfl (by decide) _ _ _ rfl (World.ownsRow_nil _ _ _ _) ⟨w.heap.size + 1, I, none⟩ (48 - I) (48 - I) (cellsOf (Txt.sgn false ++ Txt.suf p m k)) rfl ?d1 ?d2 (cellsOf_one _) ?d3 ?d4 ?d5 ?_)
        case d1 => rw [cellsOf_length, ← hlen.out]
        case d2 => exact hnews2.out
        case d3 => unfold maxLen; omega
        case d4 => omega
        case d5 => omega
        intro v' w1 hown hgrow _
        have HO := hcl.out v' w1 hown hgrow
        have HO' : Hid (AppOut p m neg w (.returned v') w1) := HO
        clear hown hgrow HO
        go_wp2
        go_ret
        exact HO'
end Go.Proofs.Qxb6600163a
