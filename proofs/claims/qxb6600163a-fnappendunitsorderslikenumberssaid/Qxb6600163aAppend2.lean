/-
  AppendUnits (7), where the buffer is made.
-/
import Derived.Test.Qxb6600163aAppend
namespace Go.Proofs.Qxb6600163a
open Go.RowKit

set_option maxHeartbeats 1000000 in
theorem append_large (p m : Nat) (neg : Bool) (u : Int) (hp : 26 < p) (hp2 : p ≤ 65536) (hm : Hid (m = u.natAbs)) (hneg : Hid (neg = decide (u < 0))) (h1 : -9223372036854775808 ≤ u) (h2 : u ≤ 9223372036854775807) (rule : Int) (w : World) :
    Calls Try.prog 7 #[.agg #[.string ByteArray.empty, .int .i32 (p : Int), .int .i64 rule], .slice none 0 0, .int .i64 u] w (AppOut p m neg w) := by
  have hm2 : m ≤ 9223372036854775808 := by rw [hm.out]; omega
  have d1 : decide (48 < (p : Int) + 22) = true := decide_eq_true (by omega)
  have hmk := run_make_row' (P := Try.prog) 25 5 (.int .u8 0) 1 Try.underlying25 Try.info5 rfl .i64 .i64 (p + 22) (by omega) (by omega)
  have ec : ((p + 22 : Nat) : Int) = (p : Int) + 22 := by omega
  rw [ec] at hmk
  clear ec
  go_enter Try.func7, Try.ntmps7
  go_wp2_with (go_at_call 13; refine (mag_any _ m hm h1 h2 _).mono ?_; rintro e w' ⟨rfl, rfl⟩)
  go_loopw [7, 11, 12] (fun t i q wr => ∃ (k I : Nat) (arr : Array Value) (o : Obj), q = .int .i64 k ∧ t = .int .u64 ((m / 10 ^ k : Nat) : Int) ∧ i = .int .i64 I ∧ Hid (Buf arr (p + 22) I (Txt.suf p m k)) ∧ Hid (Cont p m k) ∧ wr = ((w.alloc (.cells #[.string ByteArray.empty, .int .i32 (p : Int), .int .i64 rule] 24)).alloc o).alloc (.cells arr 5)) (fun _ _ q _ => p + 20 - (intOf q).toNat)
  case atStart => exact ⟨0, p + 22, _, _, rfl, by simp, by go_num, Buf.made (p + 22), Cont.start p m, rfl⟩
  case round =>
    obtain ⟨k, I, arr, o, rfl, rfl, rfl, hb, hc, rfl⟩ := hrel
    obtain ⟨L, hL⟩ : ∃ L, Hid (L = m / 10 ^ k) := ⟨_, rfl⟩
    have hL2 : L ≤ 9223372036854775808 := by rw [hL.out]; exact Nat.le_trans (Nat.div_le_self _ _) hm2
    rw [← hL.out]
    by_cases hk : k ≤ p ∨ 0 < L
    · obtain ⟨hI, hkp, hI2⟩ := room hm2 (by omega) hb.out (by rw [← hL.out]; exact hk)
      have hsz : arr.size = p + 22 := hb.out.1
      have hc' : Hid (Cont p m (k + 1)) := hc.out.step (by rw [← hL.out]; exact hk)
      by_cases hpt : k = p ∧ 0 < k
      · obtain ⟨J, rfl⟩ : ∃ J, I = J + 2 := ⟨I - 2, by omega⟩
        have hb' : Hid (Buf ((arr.setIfInBounds (J + 1) (.int .u8 46)).setIfInBounds J (.int .u8 (48 + (L : Int) % 10))) (p + 22) J (Txt.suf p m (k + 1))) := hb.out.point hpt hL.out
        obtain ⟨z, hz⟩ := hb.out.2.1 (J + 1) (by omega)
        obtain ⟨z2, hz2⟩ := hb.out.2.1 J (by omega)
        have hz3 : ∀ v, (arr.setIfInBounds (J + 1) v)[J]? = some (.int .u8 z2) := fun v => by rw [Array.getElem?_setIfInBounds, if_neg (by omega)]; exact hz2
        have e1 : ((k : Int) == (p : Int)) = true := beq_iff_eq.2 (by omega)
        have e2 : 0 < k := hpt.2
        have e3 : k ≤ p := by omega
        clear hk hpt
        go_wp2
        go_roundw
        case rel => exact ⟨k + 1, J, _, _, by go_num, left_step hL.out, by go_num, hb', hc', rfl⟩
        case measure => simp [intOf]; omega
      · obtain ⟨J, rfl⟩ : ∃ J, I = J + 1 := ⟨I - 1, by omega⟩
        have hb' : Hid (Buf (arr.setIfInBounds J (.int .u8 (48 + (L : Int) % 10))) (p + 22) J (Txt.suf p m (k + 1))) := hb.out.plain hpt hL.out
        obtain ⟨z, hz⟩ := hb.out.2.1 J (by omega)
        by_cases hkp2 : k = p
        · have e1 : ((k : Int) == (p : Int)) = true := beq_iff_eq.2 (by omega)
          have e2 : k ≤ 0 := by omega
          have e3 : k ≤ p := by omega
          clear hk hpt hkp2
          go_wp2
          go_roundw
          case rel => exact ⟨k + 1, J, _, _, by go_num, left_step hL.out, by go_num, hb', hc', rfl⟩
          case measure => simp [intOf]; omega
        · have e1 : ((k : Int) == (p : Int)) = false := beq_eq_false_iff_ne.2 (by omega)
          by_cases hle : k ≤ p
          · clear hk hpt hkp2
            go_wp2
            go_roundw
            case rel => exact ⟨k + 1, J, _, _, by go_num, left_step hL.out, by go_num, hb', hc', rfl⟩
            case measure => simp [intOf]; omega
          · have e2 : 0 < L := by omega
            clear hk hpt hkp2
            go_wp2
            go_roundw
            case rel => exact ⟨k + 1, J, _, _, by go_num, left_step hL.out, by go_num, hb', hc', rfl⟩
            case measure => simp [intOf]; omega
    · have hfin : Hid (Txt.Fin p m k) := fin_of hc.out (by omega) (by rw [← hL.out]; omega)
      obtain ⟨hI, hkp, hI2⟩ := room_end hm2 (by omega) hb.out hc.out
      have hsz : arr.size = p + 22 := hb.out.1
      have e1 : p < k := by omega
      have e2 : L ≤ 0 := by omega
      clear hk
      by_cases hu : u < 0
      · obtain ⟨J, rfl⟩ : ∃ J, I = J + 1 := ⟨I - 1, by omega⟩
        obtain ⟨z, hz⟩ := hb.out.2.1 J (by omega)
        have hb' : Hid (Buf (arr.setIfInBounds J (.int .u8 45)) (p + 22) J (Txt.sgn true ++ Txt.suf p m k)) := hb.out.push (b := 45) rfl
        have du : Hid (neg = true) := by show _ = _; rw [hneg.out]; exact decide_eq_true hu
        obtain ⟨i0, hi, hz0, hz1, hz2⟩ := info_parts Try.info5
        have hlen : Hid (p + 22 - J = (Txt.sgn true ++ Txt.suf p m k).length) := by show _ = _; have := hb'.out.2.2.1; omega
        have hcl : Hid (∀ v' w1, w1.ownsRow w.heap.size 5 1 v' (p + 22 - J) (cellsOf (Txt.sgn true ++ Txt.suf p m k)) → (((w.alloc (.cells #[.string ByteArray.empty, .int .i32 (p : Int), .int .i64 rule] 24)).alloc o).alloc (.cells (arr.setIfInBounds J (.int .u8 45)) 5)).grownBy w1 (Value.slice none 0 0).ownBlock → AppOut p m neg w (.returned v') w1) := fun v' w1 ho hg => app_close hfin.out (by rw [du.out]) hlen.out ho hg ((((Below.refl _ _).alloc (Nat.le_refl _) _).alloc (by simp) _).alloc (by simp; omega) _)
        have hnews : Hid (∀ j u, (cellsOf (Txt.sgn true ++ Txt.suf p m k))[j]? = some u → (((w.alloc (.cells #[.string ByteArray.empty, .int .i32 (p : Int), .int .i64 rule] 24)).alloc o).alloc (.cells (arr.setIfInBounds J (.int .u8 45)) 5)).cell? ((⟨w.heap.size + 2, J, none⟩ : Addr).add j) = some u) := hb'.out.news _ _ _ (by simp)
        clear hb hb' hc
        go_wp2_with (at_builtin; refine wpList_append_own _ rfl (.tmp 71) (.tmp 74) 25 rfl w.heap.size 5 i0 (.int .u8 0) 1 1 Try.underlying25 hi hz0 hz1 hz2 rfl (by decide) _ _ _ rfl (World.ownsRow_nil _ _ _ _) ⟨w.heap.size + 2, J, none⟩ (p + 22 - J) (p + 22 - J) (cellsOf (Txt.sgn true ++ Txt.suf p m k)) rfl ?c1 ?c2 (cellsOf_one _) ?c3 ?c4 ?c5 ?_)
        case c1 => rw [cellsOf_length, ← hlen.out]; omega
        case c2 => exact hnews.out
        case c3 => unfold maxLen; omega
        case c4 => omega
        case c5 => simp; omega
        intro v' w1 hown hgrow _
        have HO := hcl.out v' w1 hown hgrow
        have HO' : Hid (AppOut p m neg w (.returned v') w1) := HO
        clear hown hgrow HO
        go_wp2
        go_ret
        exact HO'
      · have du : Hid (neg = false) := by show _ = _; rw [hneg.out]; exact decide_eq_false hu
        have hb' : Hid (Buf arr (p + 22) I (Txt.sgn false ++ Txt.suf p m k)) := hb
        have hI3 : I < p + 22 := by have := hb.out.2.2.1; rw [Txt.suf_length] at this; omega
        obtain ⟨i0, hi, hz0, hz1, hz2⟩ := info_parts Try.info5
        have hlen : Hid (p + 22 - I = (Txt.sgn false ++ Txt.suf p m k).length) := by show _ = _; have := hb'.out.2.2.1; omega
        have hcl : Hid (∀ v' w1, w1.ownsRow w.heap.size 5 1 v' (p + 22 - I) (cellsOf (Txt.sgn false ++ Txt.suf p m k)) → (((w.alloc (.cells #[.string ByteArray.empty, .int .i32 (p : Int), .int .i64 rule] 24)).alloc o).alloc (.cells arr 5)).grownBy w1 (Value.slice none 0 0).ownBlock → AppOut p m neg w (.returned v') w1) := fun v' w1 ho hg => app_close hfin.out (by rw [du.out]) hlen.out ho hg ((((Below.refl _ _).alloc (Nat.le_refl _) _).alloc (by simp) _).alloc (by simp; omega) _)
        have hnews : Hid (∀ j u, (cellsOf (Txt.sgn false ++ Txt.suf p m k))[j]? = some u → (((w.alloc (.cells #[.string ByteArray.empty, .int .i32 (p : Int), .int .i64 rule] 24)).alloc o).alloc (.cells arr 5)).cell? ((⟨w.heap.size + 2, I, none⟩ : Addr).add j) = some u) := hb'.out.news _ _ _ (by simp)
        have hnews2 : Hid (∀ j u, (cellsOf (Txt.sgn false ++ Txt.suf p m k))[j]? = some u → arr[I + j]? = some u) := hb'.out.news2
        clear hb hb' hc
        go_wp2_with (at_builtin; refine wpList_append_own _ rfl (.tmp 71) (.tmp 74) 25 rfl w.heap.size 5 i0 (.int .u8 0) 1 1 Try.underlying25 hi hz0 hz1 hz2 rfl (by decide) _ _ _ rfl (World.ownsRow_nil _ _ _ _) ⟨w.heap.size + 2, I, none⟩ (p + 22 - I) (p + 22 - I) (cellsOf (Txt.sgn false ++ Txt.suf p m k)) rfl ?d1 ?d2 (cellsOf_one _) ?d3 ?d4 ?d5 ?_)
        case d1 => rw [cellsOf_length, ← hlen.out]
        case d2 => exact hnews2.out
        case d3 => unfold maxLen; omega
        case d4 => omega
        case d5 => omega
        intro v' w1 hown hgrow _
        have HO := hcl.out v' w1 hown hgrow
        have HO' : Hid (AppOut p m neg w (.returned v') w1) := HO
        clear hown hgrow HO
        go_wp2
        go_ret
        exact HO'
end Go.Proofs.Qxb6600163a
