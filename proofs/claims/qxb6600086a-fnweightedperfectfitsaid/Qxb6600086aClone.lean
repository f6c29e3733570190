/-
  spreadClone (9).
-/
import Derived.Test.Qxb6600086aSums
import Derived.Deep.OwnRows
namespace Go.Proofs.Qxb6600086a
open Go.RowKit

theorem Try.info24 : (Try.prog.info? 24).map (fun i => (i.zero, i.size, i.bytes)) = some (some (.int .u64 0), 1, 8) := by kernel_rfl

set_option maxHeartbeats 400000 in
theorem clone_nil (w : World) :
    Calls Try.prog 9 #[.slice none 0 0] w fun e w' => e = .returned (.slice none 0 0) ∧ w' = w := by
  have hq := fun w => Lib.run_eql_slice_nil (P := Try.prog) w 22 24 none 0 0 0 0 Try.underlying22
  go_enter Try.func9, Try.ntmps9
  go_wp2
  go_ret
  exact ⟨rfl, rfl⟩

/-- An array of n uint64 whose first k are c 0 .. c (k-1). -/
def Arr (arr : Array Value) (n k : Nat) (c : Nat → Nat) : Prop :=
  arr.size = n ∧ (∀ i, i < n → ∃ z, arr[i]? = some (.int .u64 z)) ∧ ∀ i, i < k → arr[i]? = some (.int .u64 (c i : Int))
theorem Arr.start (n : Nat) (c : Nat → Nat) : Arr (madeCells #[.int .u64 0] n) n 0 c :=
  ⟨size_madeCells _ _, fun i h => ⟨0, by simp [madeCells, h, Nat.mod_one]⟩, fun i h => by omega⟩
theorem Arr.step {arr : Array Value} {n k : Nat} {c : Nat → Nat} {z : Int} (h : Arr arr n k c) (hk : k < n) (hz : z = (c k : Int)) : Arr (arr.setIfInBounds k (.int .u64 z)) n (k + 1) c := by
  subst hz
  refine ⟨by rw [Array.size_setIfInBounds]; exact h.1, fun i hi => ?_, fun i hi => ?_⟩
  · rw [Array.getElem?_setIfInBounds]
    split
    · rw [if_pos (by rw [h.1]; exact hk)]; exact ⟨_, rfl⟩
    · exact h.2.1 i hi
  · rw [Array.getElem?_setIfInBounds]
    split
    · rename_i e; subst e; rw [if_pos (by rw [h.1]; exact hk)]
    · exact h.2.2 i (by omega)

/-- The clone's world: one block more, of these cells. -/
theorem Arr.seg {arr : Array Value} {n : Nat} {c : Nat → Nat} (h : Arr arr n n c) (w : World) : Seg (w.alloc (.cells arr 24)) w.heap.size 0 n c := by
  intro i hi
  rw [Nat.zero_add, World.cell?_alloc_at _ _ _ _ rfl]
  exact h.2.2 i hi

set_option maxHeartbeats 400000 in
theorem clone_any (b off n cap : Nat) (c : Nat → Nat) (w : World) (hn : n ≤ 65536) (hc : Seg w b off n c) :
    Calls Try.prog 9 #[.slice (some ⟨b, off, none⟩) n cap] w fun e w' => e = .returned (.slice (some ⟨w.heap.size, 0, none⟩) n n) ∧ ∃ arr, Hid (Arr arr n n c) ∧ w' = w.alloc (.cells arr 24) := by
  have hq := fun w => Lib.run_eql_slice_nil (P := Try.prog) w 22 24 (some ⟨b, off, none⟩) n cap 0 0 Try.underlying22
  have hmk := run_make_row' (P := Try.prog) 22 24 (.int .u64 0) 8 Try.underlying22 Try.info24 rfl .i64 .i64 n (by omega) (by omega)
  go_enter Try.func9, Try.ntmps9
  go_wp2
  go_loopw [4] (fun i wr => ∃ (k : Nat) (arr : Array Value), k ≤ n ∧ i = .int .i64 k ∧ Hid (Arr arr n k c) ∧ wr = w.alloc (.cells arr 24)) (fun i _ => n - (intOf i).toNat)
  case atStart => exact ⟨0, _, Nat.zero_le _, rfl, Arr.start n c, rfl⟩
  case round =>
    obtain ⟨k, arr, hk, rfl, harr, rfl⟩ := hrel
    by_cases hlt : k < n
    · have hcell := hc k hlt
      have hb := World.block_lt_of_cell? w _ hcell
      simp only at hb
      obtain ⟨z, hz⟩ := harr.out.2.1 k hlt
      have hsz : k < arr.size := by rw [harr.out.1]; exact hlt
      go_wp2
      go_roundw
      case rel => exact ⟨k + 1, _, by omega, by go_num, harr.out.step hlt rfl, rfl⟩
      case measure => simp [intOf]; omega
    · have e : k = n := by omega
      subst e
      go_wp2
      go_ret
      exact ⟨rfl, arr, harr, rfl⟩
end Go.Proofs.Qxb6600086a
