/-
  FnTooDeepRefusesExactlyPast64 (8): the walk.
-/
import Derived.Test.Qxb6600129aDeep
import Derived.Deep.OwnRows
import Derived.Laws.IdiomStrings
namespace Go.Proofs.Qxb6600129a
open Go.RowKit

theorem Try.info5 : (Try.prog.info? 5).map (fun i => (i.zero, i.size, i.bytes)) = some (some (.int .u8 0), 1, 1) := by kernel_rfl

def opn (t : Nat) : Int := if t % 2 = 0 then 91 else 123
def cls (t : Nat) : Int := if t % 2 = 0 then 93 else 125

/-- The buffer behind k rounds: the k outermost pairs are laid. -/
def Buf (arr : Array Value) (n k : Nat) : Prop :=
  arr.size = 2 * n ∧ (∀ t, t < 2 * n → ∃ z, arr[t]? = some (.int .u8 z)) ∧ ∀ t, t < k → arr[t]? = some (.int .u8 (opn t)) ∧ arr[2 * n - 1 - t]? = some (.int .u8 (cls t))
theorem Buf.start (n : Nat) : Buf (madeCells #[.int .u8 0] (2 * n)) n 0 :=
  ⟨size_madeCells _ _, fun i h => ⟨0, by simp [madeCells, h, Nat.mod_one]⟩, fun i h => by omega⟩
theorem Buf.step {arr : Array Value} {n k j : Nat} {x y : Int} (h : Buf arr n k) (hk : k < n) (hj : j = 2 * n - 1 - k) (hx : x = opn k) (hy : y = cls k) : Buf ((arr.setIfInBounds k (.int .u8 x)).setIfInBounds j (.int .u8 y)) n (k + 1) := by
  subst hj hx hy
  obtain ⟨h1, h2, h3⟩ := h
  have s1 : (arr.setIfInBounds k (.int .u8 (opn k))).size = 2 * n := by rw [Array.size_setIfInBounds]; exact h1
  refine ⟨by rw [Array.size_setIfInBounds]; exact s1, fun t ht => ?_, fun t ht => ?_⟩
  · rw [Array.getElem?_setIfInBounds]
    split
    · rw [if_pos (by rw [s1]; omega)]; exact ⟨_, rfl⟩
    · rw [Array.getElem?_setIfInBounds]
      split
      · rw [if_pos (by rw [h1]; omega)]; exact ⟨_, rfl⟩
      · exact h2 t ht
  · constructor
    · rw [Array.getElem?_setIfInBounds, if_neg (by omega), Array.getElem?_setIfInBounds]
      split
      · rename_i e; subst e; rw [if_pos (by rw [h1]; omega)]
      · exact (h3 t (by omega)).1
    · rw [Array.getElem?_setIfInBounds]
      split
      · rename_i e
        have : t = k := by omega
        subst this
        rw [if_pos (by rw [s1]; omega)]
      · rw [Array.getElem?_setIfInBounds, if_neg (by omega)]
        exact (h3 t (by omega)).2

/-- The byte at place t. -/
def byteAt (n t : Nat) : UInt8 := if t < n then (if t % 2 = 0 then 91 else 123) else (if (2 * n - 1 - t) % 2 = 0 then 93 else 125)
def text (n : Nat) : List UInt8 := (List.range (2 * n)).map (byteAt n)
theorem text_length (n : Nat) : (text n).length = 2 * n := by simp [text]
theorem text_at (n t : Nat) (h : t < (text n).length) : (text n)[t] = byteAt n t := by simp [text]
theorem Buf.cells {arr : Array Value} {n : Nat} (h : Buf arr n n) (t : Nat) (ht : t < (text n).length) : arr[t]? = some (.int .u8 ((text n)[t].toNat : Int)) := by
  rw [text_at]
  rw [text_length] at ht
  unfold byteAt
  by_cases h1 : t < n
  · rw [if_pos h1, (h.2.2 t h1).1]
    unfold opn
    split <;> rfl
  · rw [if_neg h1]
    have := (h.2.2 (2 * n - 1 - t) (by omega)).2
    rw [show 2 * n - 1 - (2 * n - 1 - t) = t by omega] at this
    rw [this]
    unfold cls
    split <;> rfl
theorem nest_text (n : Nat) : Nest ⟨(text n).toArray⟩ n := by
  have hs : (⟨(text n).toArray⟩ : ByteArray).size = 2 * n := by
    show (text n).toArray.size = _
    simp [text_length]
  refine ⟨hs, fun t h => ?_⟩
  have e : (⟨(text n).toArray⟩ : ByteArray)[t] = byteAt n t := by
    have h' : t < (text n).length := by rw [text_length]; omega
    have : (⟨(text n).toArray⟩ : ByteArray)[t] = (text n)[t] := rfl
    rw [this, text_at]
  rw [e]
  unfold byteAt
  constructor
  · intro h1
    rw [if_pos h1]
    split
    · left; rfl
    · right; rfl
  · intro h1
    rw [if_neg (by omega)]
    split
    · left; rfl
    · right; rfl

theorem addr_add (b o j : Nat) : (⟨b, o, none⟩ : Addr).add j = ⟨b, o + j, none⟩ := by unfold Addr.add; split <;> simp_all

set_option maxHeartbeats 1000000 in
theorem law_any (n : Nat) (hn : n ≤ 65536) (w : World) :
    Calls Try.prog 8 #[.int .i64 (n : Int)] w fun e w' => e = .returned (.bool true) ∧ Grown w w' := by
  have hmk := run_make_row' (P := Try.prog) 35 5 (.int .u8 0) 1 Try.underlying35 Try.info5 rfl .i64 .i64 (2 * n) (by omega) (by omega)
  have ec : ((2 * n : Nat) : Int) = 2 * (n : Int) := by omega
  rw [ec] at hmk
  clear ec
  have hst := Buf.start n
  have d1 : decide ((n : Int) < 0) = false := decide_eq_false (by omega)
  have d2 : decide (65536 < (n : Int)) = false := decide_eq_false (by omega)
  go_enter Try.func8, Try.ntmps8
  go_wp2
  go_loopw [4] (fun i wr => ∃ (k : Nat) (arr : Array Value), k ≤ n ∧ i = .int .i64 k ∧ Hid (Buf arr n k) ∧ wr = w.alloc (.cells arr 5)) (fun i _ => n - (intOf i).toNat)
  case atStart => exact ⟨0, _, Nat.zero_le _, rfl, hst, rfl⟩
  case round =>
    obtain ⟨k, arr, hk, rfl, harr, rfl⟩ := hrel
    by_cases hlt : k < n
    · obtain ⟨j, hj⟩ : ∃ j, Hid (j = 2 * n - 1 - k) := ⟨_, rfl⟩
      obtain ⟨z, hz⟩ := harr.out.2.1 k (by omega)
      obtain ⟨z2, hz2⟩ := harr.out.2.1 j (by have := hj.out; omega)
      have hjI : 2 * (n : Int) - 1 - (k : Int) = (j : Int) := by have := hj.out; omega
      have hj1 : j < 2 * n := by have := hj.out; omega
      have hkj : k < j := by have := hj.out; omega
      have hz3 : ∀ v, (arr.setIfInBounds k v)[j]? = some (.int .u8 z2) := fun v => by rw [Array.getElem?_setIfInBounds, if_neg (by omega)]; exact hz2
      have hsz : arr.size = 2 * n := harr.out.1
      clear hmk hst
      by_cases hp : k % 2 = 0
      · have hp2 : ((k : Int) % 2 == 0) = true := beq_iff_eq.2 (by omega)
        have ho : Hid ((91 : Int) = opn k) := by show _ = _; unfold opn; rw [if_pos hp]
        have hcl : Hid ((93 : Int) = cls k) := by show _ = _; unfold cls; rw [if_pos hp]
        clear hp
        go_wp2
        go_roundw
        case rel => exact ⟨k + 1, _, by omega, by go_num, harr.out.step hlt hj.out ho.out hcl.out, rfl⟩
        case measure => simp [intOf]; omega
      · have hp2 : ((k : Int) % 2 == 0) = false := beq_eq_false_iff_ne.2 (by omega)
        have ho : Hid ((123 : Int) = opn k) := by show _ = _; unfold opn; rw [if_neg hp]
        have hcl : Hid ((125 : Int) = cls k) := by show _ = _; unfold cls; rw [if_neg hp]
        clear hp
        go_wp2
        go_roundw
        case rel => exact ⟨k + 1, _, by omega, by go_num, harr.out.step hlt hj.out ho.out hcl.out, rfl⟩
        case measure => simp [intOf]; omega
    · have e : k = n := by omega
      subst e
      obtain ⟨s, hs, hconv⟩ : ∃ s, Hid (Nest s k) ∧ (convert 35 9 (.slice (some ⟨w.heap.size, 0, none⟩) (2 * k) (2 * k))).run Try.prog (w.alloc (.cells arr 5)) = .ok (.string s) (w.alloc (.cells arr 5)) := by
        refine ⟨⟨(text k).toArray⟩, nest_text k, ?_⟩
        have h := run_convert_bytes_back (P := Try.prog) (w.alloc (.cells arr 5)) 35 9 5 ⟨w.heap.size, 0, none⟩ (2 * k) (text k) Try.underlying35 Try.underlying5 Try.underlying9 (fun j hj => by
          rw [addr_add, Nat.zero_add, World.cell?_alloc_at _ _ _ _ rfl]
          exact harr.out.cells j hj)
        rw [text_length] at h
        exact h
      clear hmk hst hlt
      by_cases h64 : 64 < k
      · have c17 : Hid (∀ w, Calls Try.prog 17 #[.string s] w fun e w' => e = .returned (.tuple #[.int .i64 64, .bool true]) ∧ w' = w) := fun w => by
          have := zzdeep_any s k hn hs w
          rw [(out_deep h64).1, (out_deep h64).2] at this
          exact this
        go_wp2_with (go_at_call 17; refine (c17.out _).mono ?_; rintro e w' ⟨rfl, rfl⟩)
        go_ret
        exact ⟨rfl, by repeat (first | exact Grown.refl _ | apply Grown.drew | apply Grown.alloc)⟩
      · have c17 : Hid (∀ w, Calls Try.prog 17 #[.string s] w fun e w' => e = .returned (.tuple #[.int .i64 0, .bool false]) ∧ w' = w) := fun w => by
          have := zzdeep_any s k hn hs w
          rw [(out_plain h64).1, (out_plain h64).2] at this
          exact this
        go_wp2_with (go_at_call 17; refine (c17.out _).mono ?_; rintro e w' ⟨rfl, rfl⟩)
        go_ret
        exact ⟨rfl, by repeat (first | exact Grown.refl _ | apply Grown.drew | apply Grown.alloc)⟩
end Go.Proofs.Qxb6600129a
