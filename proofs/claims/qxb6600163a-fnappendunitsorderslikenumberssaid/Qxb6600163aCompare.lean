/-
  zzCompareInts (11), zzCompareMagnitudes (16), zzCompareTexts (10).
-/
import Derived.Test.Qxb6600163aProg
import Derived.Test.Qxb6600163aPlain
import Derived.WalkKit
import Derived.WalkSpells
import Derived.WalkLawsBesides
import Derived.RegionTactic
import Derived.ChangeAlike
import Derived.Deep.QuietTactic
import Derived.BigQuiet
import Derived.Outline
namespace Go.Proofs.Qxb6600163a
open Go.RowKit

theorem ret_i64 {a b : Int} (h : a = b) : Ending.returned (.int .i64 a) = .returned (.int .i64 b) := by rw [h]

def cmpI (u v : Int) : Int := if u < v then -1 else if v < u then 1 else 0

set_option maxHeartbeats 400000 in
theorem ints_any (u v : Int) (w : World) :
    Calls Try.prog 11 #[.int .i64 u, .int .i64 v] w fun e w' => e = .returned (.int .i64 (cmpI u v)) ∧ w' = w := by
  by_cases h1 : u < v
  · have e : cmpI u v = -1 := if_pos h1
    rw [e]; clear e
    go_enter Try.func11, Try.ntmps11
    go_wp2
    go_ret
    exact ⟨rfl, rfl⟩
  · by_cases h2 : v < u
    · have e : cmpI u v = 1 := by unfold cmpI; rw [if_neg h1, if_pos h2]
      rw [e]; clear e
      go_enter Try.func11, Try.ntmps11
      go_wp2
      go_ret
      exact ⟨rfl, rfl⟩
    · have e : cmpI u v = 0 := by unfold cmpI; rw [if_neg h1, if_neg h2]
      rw [e]; clear e
      go_enter Try.func11, Try.ntmps11
      go_wp2
      go_ret
      exact ⟨rfl, rfl⟩

/-- The cells of a slice of bytes that begins at b, off: l. -/
def Row (w : World) (b off : Nat) (l : List UInt8) : Prop := ∀ j (h : j < l.length), w.cell? ⟨b, off + j, none⟩ = some (.int .u8 (l[j].toNat : Int))

/-- Byte by byte from place k on. -/
def lexAt (a b : List UInt8) (k : Nat) : Int := Txt.lex (a.drop k) (b.drop k)
theorem lex_lt {a b : List UInt8} {k : Nat} (h1 : k < a.length) (h2 : k < b.length) (h : (a[k].toNat : Int) < (b[k].toNat : Int)) : lexAt a b k = -1 := by
  unfold lexAt
  rw [List.drop_eq_getElem_cons h1, List.drop_eq_getElem_cons h2]
  simp only [Txt.lex]
  rw [if_pos (by omega)]
theorem lex_gt {a b : List UInt8} {k : Nat} (h1 : k < a.length) (h2 : k < b.length) (h : (b[k].toNat : Int) < (a[k].toNat : Int)) : lexAt a b k = 1 := by
  unfold lexAt
  rw [List.drop_eq_getElem_cons h1, List.drop_eq_getElem_cons h2]
  simp only [Txt.lex]
  rw [if_neg (by omega), if_pos (by omega)]
theorem lex_eq {a b : List UInt8} {k : Nat} (h1 : k < a.length) (h2 : k < b.length) (h : ¬ (a[k].toNat : Int) < (b[k].toNat : Int)) (h' : ¬ (b[k].toNat : Int) < (a[k].toNat : Int)) : lexAt a b k = lexAt a b (k + 1) := by
  unfold lexAt
  rw [List.drop_eq_getElem_cons h1, List.drop_eq_getElem_cons h2]
  simp only [Txt.lex]
  rw [if_neg (by omega), if_neg (by omega)]
theorem lex_end {a b : List UInt8} {k : Nat} (h1 : a.length ≤ k) : lexAt a b k = 0 := by
  unfold lexAt
  rw [List.drop_eq_nil_of_le h1]
  rfl

theorem drew_ex {w w' : World} (h : ∃ n, w' = w.drewN n) (k : Nat) : ∃ n, w'.drewN k = w.drewN n := by
  obtain ⟨n, rfl⟩ := h
  exact ⟨n + k, World.drewN_drewN _ _ _⟩

set_option maxHeartbeats 1000000 in
theorem mags_any (b1 o1 c1 b2 o2 c2 : Nat) (l1 l2 : List UInt8) (w : World) (n1 n2 : Nat) (e1 : Hid (n1 = l1.length)) (e2 : Hid (n2 = l2.length)) (k1 : n1 ≤ 1048576) (k2 : n2 ≤ 1048576) (h1 : Hid (Row w b1 o1 l1)) (h2 : Hid (Row w b2 o2 l2)) (r : Int) (hr : Hid (r = Txt.cmpL l1 l2)) :
    Calls Try.prog 16 #[.slice (some ⟨b1, o1, none⟩) n1 c1, .slice (some ⟨b2, o2, none⟩) n2 c2] w fun e w' => e = .returned (.int .i64 r) ∧ ∃ n, w' = w.drewN n := by
  by_cases hlt : n1 < n2
  · have hr' : r = -1 := by rw [hr.out]; unfold Txt.cmpL; rw [if_pos (by rw [← e1.out, ← e2.out]; exact hlt)]
    subst hr'
    go_enter Try.func16, Try.ntmps16
    go_wp2
    go_ret
    exact ⟨rfl, 0, rfl⟩
  by_cases hgt : n2 < n1
  · have hr' : r = 1 := by rw [hr.out]; unfold Txt.cmpL; rw [if_neg (by rw [← e1.out, ← e2.out]; exact hlt), if_pos (by rw [← e1.out, ← e2.out]; exact hgt)]
    subst hr'
    go_enter Try.func16, Try.ntmps16
    go_wp2
    go_ret
    exact ⟨rfl, 0, rfl⟩
  have hr' : Hid (r = lexAt l1 l2 0) := by show _ = _; rw [hr.out]; unfold Txt.cmpL lexAt; rw [if_neg (by rw [← e1.out, ← e2.out]; exact hlt), if_neg (by rw [← e1.out, ← e2.out]; exact hgt)]; simp
  have en : n2 = n1 := by omega
  subst en
  clear hlt hgt hr
  go_enter Try.func16, Try.ntmps16
  go_wp2
  go_loopw [5] (fun i wr => ∃ k : Nat, k ≤ n2 ∧ i = .int .i64 k ∧ Hid (r = lexAt l1 l2 k) ∧ ∃ n, wr = w.drewN n) (fun i _ => n2 - (intOf i).toNat)
  case atStart => exact ⟨0, Nat.zero_le _, rfl, hr', ⟨0, rfl⟩⟩
  case round =>
    obtain ⟨k, hk, rfl, hd, n, rfl⟩ := hrel
    by_cases hlt : k < n2
    · have g1 : k < l1.length := by rw [← e1.out]; exact hlt
      have g2 : k < l2.length := by rw [← e2.out]; exact hlt
      obtain ⟨x, hx⟩ : ∃ x, Hid (x = l1[k].toNat) := ⟨l1[k].toNat, Eq.refl _⟩
      obtain ⟨y, hy⟩ : ∃ y, Hid (y = l2[k].toNat) := ⟨l2[k].toNat, Eq.refl _⟩
      have f1 : w.cell? ⟨b1, o1 + k, none⟩ = some (.int .u8 (x : Int)) := by rw [hx.out]; exact h1.out k g1
      have f2 : w.cell? ⟨b2, o2 + k, none⟩ = some (.int .u8 (y : Int)) := by rw [hy.out]; exact h2.out k g2
      have hkI : (k : Int) < (n2 : Int) := by omega
      by_cases c1 : x < y
      · have hr1 : r = -1 := by rw [hd.out]; exact lex_lt g1 g2 (by rw [← hx.out, ← hy.out]; omega)
        subst hr1
        go_wp2
        go_quiet (fail)
        go_wp2
        go_ret
        exact ⟨rfl, drew_ex ⟨_, rfl⟩ _⟩
      · by_cases c2 : y < x
        · have hr1 : r = 1 := by rw [hd.out]; exact lex_gt g1 g2 (by rw [← hx.out, ← hy.out]; omega)
          subst hr1
          go_wp2
          go_quiet (fail)
          go_wp2
          go_quiet (fail)
          go_wp2
          go_ret
          exact ⟨rfl, drew_ex (drew_ex ⟨_, rfl⟩ _) _⟩
        · have hd' : Hid (r = lexAt l1 l2 (k + 1)) := by
            show _ = _
            rw [hd.out]; exact lex_eq g1 g2 (by rw [← hx.out, ← hy.out]; omega) (by rw [← hx.out, ← hy.out]; omega)
          go_wp2
          go_quiet (fail)
          go_wp2
          go_quiet (fail)
          go_wp2
          go_roundw
          case rel => exact ⟨k + 1, by omega, by go_num, hd', _, rfl⟩
          case measure => simp [intOf]; omega
    · have hr1 : r = 0 := by rw [hd.out]; exact lex_end (by rw [← e1.out]; omega)
      subst hr1
      go_wp2
      go_ret
      exact ⟨rfl, _, rfl⟩

/-- A text's first byte is '-' exactly when it has a sign. -/
def Starts (l : List UInt8) : Prop := ∃ b r, l = b :: r ∧ 48 ≤ b.toNat

theorem row_sign {w : World} {g : Nat} {s : List UInt8} (h : Row w g 0 (Txt.sgn true ++ s)) : w.cell? ⟨g, 0, none⟩ = some (.int .u8 45) := h 0 (by simp [Txt.sgn])
theorem row_rest {w : World} {g : Nat} {s : List UInt8} (h : Row w g 0 (Txt.sgn true ++ s)) : Row w g 1 s := fun j hj => by
  have hlt : j + 1 < (Txt.sgn true ++ s).length := by simp [Txt.sgn]; omega
  have e : (⟨g, 1 + j, none⟩ : Addr) = ⟨g, 0 + (j + 1), none⟩ := by rw [Nat.zero_add, Nat.add_comm]
  rw [e, h (j + 1) hlt]
  rfl
theorem row_start {w : World} {g : Nat} {s : List UInt8} (h : Row w g 0 s) (d : Starts s) : 0 < s.length ∧ ∃ b : Nat, w.cell? ⟨g, 0, none⟩ = some (.int .u8 (b : Int)) ∧ 48 ≤ b := by
  obtain ⟨b, r, rfl, hb⟩ := d
  exact ⟨by simp, b.toNat, h 0 (by simp), hb⟩
theorem sgn_len (s : List UInt8) : (Txt.sgn true ++ s).length = s.length + 1 := by simp [Txt.sgn]

set_option maxHeartbeats 1000000 in
theorem texts_np (g1 c1 g2 c2 : Nat) (s1 s2 : List UInt8) (w : World) (n1 n2 : Nat) (e1 : Hid (n1 = s1.length + 1)) (e2 : Hid (n2 = s2.length)) (h1 : Hid (Row w g1 0 (Txt.sgn true ++ s1))) (h2 : Hid (Row w g2 0 s2)) (d2 : Hid (Starts s2)) :
    Calls Try.prog 10 #[.slice (some ⟨g1, 0, none⟩) n1 c1, .slice (some ⟨g2, 0, none⟩) n2 c2] w fun e w' => e = .returned (.int .i64 (-1)) ∧ ∃ n, w' = w.drewN n := by
  obtain ⟨p2, b, f2, hb⟩ := row_start h2.out d2.out
  have f1 := row_sign h1.out
  have q1I : (0 : Int) < (n1 : Int) := by have := e1.out; omega
  have q2I : (0 : Int) < (n2 : Int) := by have := e2.out; omega
  have q3 : ((b : Int) == 45) = false := beq_eq_false_iff_ne.2 (by omega)
  go_enter Try.func10, Try.ntmps10
  go_wp2
  go_ret
  exact ⟨rfl, 0, rfl⟩

set_option maxHeartbeats 1000000 in
theorem texts_pn (g1 c1 g2 c2 : Nat) (s1 s2 : List UInt8) (w : World) (n1 n2 : Nat) (e1 : Hid (n1 = s1.length)) (e2 : Hid (n2 = s2.length + 1)) (h1 : Hid (Row w g1 0 s1)) (h2 : Hid (Row w g2 0 (Txt.sgn true ++ s2))) (d1 : Hid (Starts s1)) :
    Calls Try.prog 10 #[.slice (some ⟨g1, 0, none⟩) n1 c1, .slice (some ⟨g2, 0, none⟩) n2 c2] w fun e w' => e = .returned (.int .i64 1) ∧ ∃ n, w' = w.drewN n := by
  obtain ⟨p1, b, f1, hb⟩ := row_start h1.out d1.out
  have f2 := row_sign h2.out
  have q1I : (0 : Int) < (n1 : Int) := by have := e1.out; omega
  have q2I : (0 : Int) < (n2 : Int) := by have := e2.out; omega
  have q3 : ((b : Int) == 45) = false := beq_eq_false_iff_ne.2 (by omega)
  go_enter Try.func10, Try.ntmps10
  go_wp2
  go_ret
  exact ⟨rfl, 0, rfl⟩

set_option maxHeartbeats 1000000 in
theorem texts_pp (g1 c1 g2 c2 : Nat) (s1 s2 : List UInt8) (w : World) (n1 n2 : Nat) (e1 : Hid (n1 = s1.length)) (e2 : Hid (n2 = s2.length)) (k1 : n1 ≤ 1048576) (k2 : n2 ≤ 1048576) (h1 : Hid (Row w g1 0 s1)) (h2 : Hid (Row w g2 0 s2)) (d1 : Hid (Starts s1)) (d2 : Hid (Starts s2)) (r : Int) (hr : Hid (r = Txt.cmpL s1 s2)) :
    Calls Try.prog 10 #[.slice (some ⟨g1, 0, none⟩) n1 c1, .slice (some ⟨g2, 0, none⟩) n2 c2] w fun e w' => e = .returned (.int .i64 r) ∧ ∃ n, w' = w.drewN n := by
  obtain ⟨p1, b1, f1, hb1⟩ := row_start h1.out d1.out
  obtain ⟨p2, b2, f2, hb2⟩ := row_start h2.out d2.out
  have q1I : (0 : Int) < (n1 : Int) := by have := e1.out; omega
  have q2I : (0 : Int) < (n2 : Int) := by have := e2.out; omega
  have q3 : ((b1 : Int) == 45) = false := beq_eq_false_iff_ne.2 (by omega)
  have q4 : ((b2 : Int) == 45) = false := beq_eq_false_iff_ne.2 (by omega)
  go_enter Try.func10, Try.ntmps10
  go_wp2_with fail
  refine (mags_any g1 0 c1 g2 0 c2 s1 s2 _ n1 n2 e1 e2 k1 k2 h1 h2 r hr).mono ?_
  rintro e w' ⟨rfl, n, rfl⟩
  go_wp2
  go_ret
  exact ⟨rfl, n, rfl⟩

set_option maxHeartbeats 1000000 in
theorem texts_nn (g1 c1 g2 c2 : Nat) (s1 s2 : List UInt8) (w : World) (n1 n2 : Nat) (e1 : Hid (n1 = s1.length + 1)) (e2 : Hid (n2 = s2.length + 1)) (k1 : n1 ≤ 1048576) (k2 : n2 ≤ 1048576) (z1 : n1 ≤ c1) (z2 : n2 ≤ c2) (h1 : Hid (Row w g1 0 (Txt.sgn true ++ s1))) (h2 : Hid (Row w g2 0 (Txt.sgn true ++ s2))) (d1 : 1 < n1) (d2 : 1 < n2) (r : Int) (hr : Hid (r = Txt.cmpL s2 s1)) :
    Calls Try.prog 10 #[.slice (some ⟨g1, 0, none⟩) n1 c1, .slice (some ⟨g2, 0, none⟩) n2 c2] w fun e w' => e = .returned (.int .i64 r) ∧ ∃ n, w' = w.drewN n := by
  have f1 := row_sign h1.out
  have f2 := row_sign h2.out
  have r1 : ∀ n, Hid (Row (w.drewN n) g1 1 s1) := fun _ => row_rest h1.out
  have r2 : ∀ n, Hid (Row (w.drewN n) g2 1 s2) := fun _ => row_rest h2.out
  have q1I : (0 : Int) < (n1 : Int) := by omega
  have q2I : (0 : Int) < (n2 : Int) := by omega
  have x1 : Hid (n1 - 1 = s1.length) := by show _ = _; have := e1.out; omega
  have x2 : Hid (n2 - 1 = s2.length) := by show _ = _; have := e2.out; omega
  go_enter Try.func10, Try.ntmps10
  go_wp2
  go_quiet ((go_at_call 16; exact Calls.quiet_of (mags_any g2 1 (c2 - 1) g1 1 (c1 - 1) s2 s1 _ (n2 - 1) (n1 - 1) x2 x1 (by omega) (by omega) (r2 _) (r1 _) r hr)))
  go_wp2
  go_ret
  exact ⟨rfl, _, rfl⟩
end Go.Proofs.Qxb6600163a
