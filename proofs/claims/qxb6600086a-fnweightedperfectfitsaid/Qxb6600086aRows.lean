/-
  No cell of these rows narrows 'for every input' (looked for: loops, veiled, ifaces, maps, wideKeys, modest, calm, conditions, laid).
  DERIVED. THE GIVEN ROWS OF THIS SEAT. 4 by the template 'for every input the law returns true; each argument reads behind the call as it read before'; 0 by the template 'total and deterministic' (their statements: Qxb6600086aTotals.lean).
  GIVEN WITH THE SEED: the statements are not yours to turn. If you find one false, say at which input.
  Laid BY PROGRAM, IN A SANDBOX (cutbox-rows.mjs): the forced cells as the released guide's own fill.sh prints them over the translation 8fe15b1f9062085e… (all of the seat's roots in one cut). By AI agents, Wed Nov 11 2026. No macro, syntax, notation, axiom, sorry.
-/
import Derived.Test.Qxb6600086aChecked
import GoSem.Claim
import GoSem.ClaimJoined
import GoSem.ClaimMapViews
import Derived.JoinedTies
import Derived.KernelRfl
namespace Go.Proofs.Qxb6600086a
/- THE CELL 'sum', in the pinned program and in every row, IS THE sha256 OF THE DUMP (.gsa) THAT Qxb6600086aProg.lean LOADS. Nothing in Lean hashes anything: it is a label: what it is worth is what the hold of that sum in a sandbox is worth. -/
noncomputable def Try.pinned : Pinned := { name := "qxb6600086a", sum := "8fe15b1f9062085e18aad5d6efdbf909e4854aa5daef3545447dc25a9d5b82f8", checked := Try.checked }
namespace Rows
def none {H : Type} : Left H := { results := [], args := [] }

/-- 'zzlaws_internal_spread_b1.FnWeightedBounds': WHATEVER THE INPUT: true; the input reads as it did. -/
def fnWeightedBoundsSpec : ChangeSpec := { name := "fnWeightedBounds", fn := fun _ => fun
  | [d1, d2] => { results := [.lit (.bool true)], args := [d1, d2] }
  | _ => none }
def fnWeightedBoundsRow : OpenClaim := { program := "qxb6600086a", sum := "8fe15b1f9062085e18aad5d6efdbf909e4854aa5daef3545447dc25a9d5b82f8", func := "example.com/keyleap/zzlaws_internal_spread_b1.FnWeightedBounds", spec := "fnWeightedBounds", apart := false }
def FnWeightedBoundsSaid : Prop := fnWeightedBoundsRow.holds Try.pinned (OpenSpec.ofChange fnWeightedBoundsSpec)

/-- ITS FALSE NEIGHBOUR: 'it returns false'. Refute it at one input. -/
def fnWeightedBoundsWrong : ChangeSpec := { name := "fnWeightedBounds", fn := fun _ => fun
  | [d1, d2] => { results := [.lit (.bool false)], args := [d1, d2] }
  | _ => none }
def FnWeightedBoundsWrongFalsely : Prop := fnWeightedBoundsRow.holds Try.pinned (OpenSpec.ofChange fnWeightedBoundsWrong)

/-- 'zzlaws_internal_spread_b1.FnWeightedUniformPowerOfTwoIsEven': WHATEVER THE INPUT: true; the input reads as it did. -/
def fnWeightedUniformPowerOfTwoIsEvenSpec : ChangeSpec := { name := "fnWeightedUniformPowerOfTwoIsEven", fn := fun _ => fun
  | [d1, d2] => { results := [.lit (.bool true)], args := [d1, d2] }
  | _ => none }
def fnWeightedUniformPowerOfTwoIsEvenRow : OpenClaim := { program := "qxb6600086a", sum := "8fe15b1f9062085e18aad5d6efdbf909e4854aa5daef3545447dc25a9d5b82f8", func := "example.com/keyleap/zzlaws_internal_spread_b1.FnWeightedUniformPowerOfTwoIsEven", spec := "fnWeightedUniformPowerOfTwoIsEven", apart := false }
def FnWeightedUniformPowerOfTwoIsEvenSaid : Prop := fnWeightedUniformPowerOfTwoIsEvenRow.holds Try.pinned (OpenSpec.ofChange fnWeightedUniformPowerOfTwoIsEvenSpec)

/-- ITS FALSE NEIGHBOUR: 'it returns false'. Refute it at one input. -/
def fnWeightedUniformPowerOfTwoIsEvenWrong : ChangeSpec := { name := "fnWeightedUniformPowerOfTwoIsEven", fn := fun _ => fun
  | [d1, d2] => { results := [.lit (.bool false)], args := [d1, d2] }
  | _ => none }
def FnWeightedUniformPowerOfTwoIsEvenWrongFalsely : Prop := fnWeightedUniformPowerOfTwoIsEvenRow.holds Try.pinned (OpenSpec.ofChange fnWeightedUniformPowerOfTwoIsEvenWrong)

/-- 'zzlaws_internal_spread_b1.FnWeightedPerfectFit': WHATEVER THE INPUT: true; the input reads as it did. -/
def fnWeightedPerfectFitSpec : ChangeSpec := { name := "fnWeightedPerfectFit", fn := fun _ => fun
  | [d1, d2] => { results := [.lit (.bool true)], args := [d1, d2] }
  | _ => none }
def fnWeightedPerfectFitRow : OpenClaim := { program := "qxb6600086a", sum := "8fe15b1f9062085e18aad5d6efdbf909e4854aa5daef3545447dc25a9d5b82f8", func := "example.com/keyleap/zzlaws_internal_spread_b1.FnWeightedPerfectFit", spec := "fnWeightedPerfectFit", apart := false }
def FnWeightedPerfectFitSaid : Prop := fnWeightedPerfectFitRow.holds Try.pinned (OpenSpec.ofChange fnWeightedPerfectFitSpec)

/-- ITS FALSE NEIGHBOUR: 'it returns false'. Refute it at one input. -/
def fnWeightedPerfectFitWrong : ChangeSpec := { name := "fnWeightedPerfectFit", fn := fun _ => fun
  | [d1, d2] => { results := [.lit (.bool false)], args := [d1, d2] }
  | _ => none }
def FnWeightedPerfectFitWrongFalsely : Prop := fnWeightedPerfectFitRow.holds Try.pinned (OpenSpec.ofChange fnWeightedPerfectFitWrong)

/-- 'zzlaws_internal_spread_b1.FnWeightedRotationInvariant': WHATEVER THE INPUT: true; the input reads as it did. -/
def fnWeightedRotationInvariantSpec : ChangeSpec := { name := "fnWeightedRotationInvariant", fn := fun _ => fun
  | [d1, d2, d3] => { results := [.lit (.bool true)], args := [d1, d2, d3] }
  | _ => none }
def fnWeightedRotationInvariantRow : OpenClaim := { program := "qxb6600086a", sum := "8fe15b1f9062085e18aad5d6efdbf909e4854aa5daef3545447dc25a9d5b82f8", func := "example.com/keyleap/zzlaws_internal_spread_b1.FnWeightedRotationInvariant", spec := "fnWeightedRotationInvariant", apart := false }
def FnWeightedRotationInvariantSaid : Prop := fnWeightedRotationInvariantRow.holds Try.pinned (OpenSpec.ofChange fnWeightedRotationInvariantSpec)

/-- ITS FALSE NEIGHBOUR: 'it returns false'. Refute it at one input. -/
def fnWeightedRotationInvariantWrong : ChangeSpec := { name := "fnWeightedRotationInvariant", fn := fun _ => fun
  | [d1, d2, d3] => { results := [.lit (.bool false)], args := [d1, d2, d3] }
  | _ => none }
def FnWeightedRotationInvariantWrongFalsely : Prop := fnWeightedRotationInvariantRow.holds Try.pinned (OpenSpec.ofChange fnWeightedRotationInvariantWrong)

end Rows
end Go.Proofs.Qxb6600086a
