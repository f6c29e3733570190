/-
  No cell of these rows narrows 'for every input' (looked for: loops, veiled, ifaces, maps, wideKeys, modest, calm, conditions, laid).
  DERIVED. THE GIVEN ROWS OF THIS SEAT. 4 by the template 'for every input the law returns true; each argument reads behind the call as it read before'; 0 by the template 'total and deterministic' (their statements: Qxb6600163aTotals.lean).
  GIVEN WITH THE SEED: the statements are not yours to turn. If you find one false, say at which input.
  Laid BY PROGRAM, IN A SANDBOX (cutbox-rows.mjs): the forced cells as the released guide's own fill.sh prints them over the translation ebad8bc1e8c7fba3… (all of the seat's roots in one cut). By AI agents, Wed Nov 11 2026. No macro, syntax, notation, axiom, sorry.
-/
import Derived.Test.Qxb6600163aChecked
import GoSem.Claim
import GoSem.ClaimJoined
import GoSem.ClaimMapViews
import Derived.JoinedTies
import Derived.KernelRfl
namespace Go.Proofs.Qxb6600163a
/- THE CELL 'sum', in the pinned program and in every row, IS THE sha256 OF THE DUMP (.gsa) THAT Qxb6600163aProg.lean LOADS. Nothing in Lean hashes anything: it is a label: what it is worth is what the hold of that sum in a sandbox is worth. -/
noncomputable def Try.pinned : Pinned := { name := "qxb6600163a", sum := "ebad8bc1e8c7fba367660e78da088fcc1fae302f7ee68b4f0f1c2c902b65a940", checked := Try.checked }
namespace Rows
def none {H : Type} : Left H := { results := [], args := [] }

/-- 'zzlaws_figure_b1.FnAppendUnitsRoundTripsThroughUnits': WHATEVER THE INPUT: true; the input reads as it did. -/
def fnAppendUnitsRoundTripsThroughUnitsSpec : ChangeSpec := { name := "fnAppendUnitsRoundTripsThroughUnits", fn := fun _ => fun
  | [d1, d2] => { results := [.lit (.bool true)], args := [d1, d2] }
  | _ => none }
def fnAppendUnitsRoundTripsThroughUnitsRow : OpenClaim := { program := "qxb6600163a", sum := "ebad8bc1e8c7fba367660e78da088fcc1fae302f7ee68b4f0f1c2c902b65a940", func := "example.com/zhaomu/zhaomu/zzlaws_figure_b1.FnAppendUnitsRoundTripsThroughUnits", spec := "fnAppendUnitsRoundTripsThroughUnits", inPlace := ["internal/bytealg.IndexByteString", "internal/bytealg.IndexString"], named := ["internal/bytealg.MaxLen"], apart := false }
def FnAppendUnitsRoundTripsThroughUnitsSaid : Prop := fnAppendUnitsRoundTripsThroughUnitsRow.holds Try.pinned (OpenSpec.ofChange fnAppendUnitsRoundTripsThroughUnitsSpec)

/-- ITS FALSE NEIGHBOUR: 'it returns false'. Refute it at one input. -/
def fnAppendUnitsRoundTripsThroughUnitsWrong : ChangeSpec := { name := "fnAppendUnitsRoundTripsThroughUnits", fn := fun _ => fun
  | [d1, d2] => { results := [.lit (.bool false)], args := [d1, d2] }
  | _ => none }
def FnAppendUnitsRoundTripsThroughUnitsWrongFalsely : Prop := fnAppendUnitsRoundTripsThroughUnitsRow.holds Try.pinned (OpenSpec.ofChange fnAppendUnitsRoundTripsThroughUnitsWrong)

/-- 'zzlaws_figure_b1.FnAppendUnitsWritesSignedDecimal': WHATEVER THE INPUT: true; the input reads as it did. -/
def fnAppendUnitsWritesSignedDecimalSpec : ChangeSpec := { name := "fnAppendUnitsWritesSignedDecimal", fn := fun _ => fun
  | [d1, d2] => { results := [.lit (.bool true)], args := [d1, d2] }
  | _ => none }
def fnAppendUnitsWritesSignedDecimalRow : OpenClaim := { program := "qxb6600163a", sum := "ebad8bc1e8c7fba367660e78da088fcc1fae302f7ee68b4f0f1c2c902b65a940", func := "example.com/zhaomu/zhaomu/zzlaws_figure_b1.FnAppendUnitsWritesSignedDecimal", spec := "fnAppendUnitsWritesSignedDecimal", apart := false }
def FnAppendUnitsWritesSignedDecimalSaid : Prop := fnAppendUnitsWritesSignedDecimalRow.holds Try.pinned (OpenSpec.ofChange fnAppendUnitsWritesSignedDecimalSpec)

/-- ITS FALSE NEIGHBOUR: 'it returns false'. Refute it at one input. -/
def fnAppendUnitsWritesSignedDecimalWrong : ChangeSpec := { name := "fnAppendUnitsWritesSignedDecimal", fn := fun _ => fun
  | [d1, d2] => { results := [.lit (.bool false)], args := [d1, d2] }
  | _ => none }
def FnAppendUnitsWritesSignedDecimalWrongFalsely : Prop := fnAppendUnitsWritesSignedDecimalRow.holds Try.pinned (OpenSpec.ofChange fnAppendUnitsWritesSignedDecimalWrong)

/-- 'zzlaws_figure_b1.FnAppendUnitsOrdersLikeNumbers': WHATEVER THE INPUT: true; the input reads as it did. -/
def fnAppendUnitsOrdersLikeNumbersSpec : ChangeSpec := { name := "fnAppendUnitsOrdersLikeNumbers", fn := fun _ => fun
  | [d1, d2, d3] => { results := [.lit (.bool true)], args := [d1, d2, d3] }
  | _ => none }
def fnAppendUnitsOrdersLikeNumbersRow : OpenClaim := { program := "qxb6600163a", sum := "ebad8bc1e8c7fba367660e78da088fcc1fae302f7ee68b4f0f1c2c902b65a940", func := "example.com/zhaomu/zhaomu/zzlaws_figure_b1.FnAppendUnitsOrdersLikeNumbers", spec := "fnAppendUnitsOrdersLikeNumbers", apart := false }
def FnAppendUnitsOrdersLikeNumbersSaid : Prop := fnAppendUnitsOrdersLikeNumbersRow.holds Try.pinned (OpenSpec.ofChange fnAppendUnitsOrdersLikeNumbersSpec)

/-- ITS FALSE NEIGHBOUR: 'it returns false'. Refute it at one input. -/
def fnAppendUnitsOrdersLikeNumbersWrong : ChangeSpec := { name := "fnAppendUnitsOrdersLikeNumbers", fn := fun _ => fun
  | [d1, d2, d3] => { results := [.lit (.bool false)], args := [d1, d2, d3] }
  | _ => none }
def FnAppendUnitsOrdersLikeNumbersWrongFalsely : Prop := fnAppendUnitsOrdersLikeNumbersRow.holds Try.pinned (OpenSpec.ofChange fnAppendUnitsOrdersLikeNumbersWrong)

/-- 'zzlaws_figure_b1.FnDigitsParseAndPrintBack': WHATEVER THE INPUT: true; the input reads as it did. -/
def fnDigitsParseAndPrintBackSpec : ChangeSpec := { name := "fnDigitsParseAndPrintBack", fn := fun _ => fun
  | [d] => { results := [.lit (.bool true)], args := [d] }
  | _ => none }
def fnDigitsParseAndPrintBackRow : OpenClaim := { program := "qxb6600163a", sum := "ebad8bc1e8c7fba367660e78da088fcc1fae302f7ee68b4f0f1c2c902b65a940", func := "example.com/zhaomu/zhaomu/zzlaws_figure_b1.FnDigitsParseAndPrintBack", spec := "fnDigitsParseAndPrintBack", inPlace := ["internal/bytealg.IndexByteString", "internal/bytealg.IndexString"], named := ["internal/bytealg.MaxLen"], apart := false }
def FnDigitsParseAndPrintBackSaid : Prop := fnDigitsParseAndPrintBackRow.holds Try.pinned (OpenSpec.ofChange fnDigitsParseAndPrintBackSpec)

/-- ITS FALSE NEIGHBOUR: 'it returns false'. Refute it at one input. -/
def fnDigitsParseAndPrintBackWrong : ChangeSpec := { name := "fnDigitsParseAndPrintBack", fn := fun _ => fun
  | [d] => { results := [.lit (.bool false)], args := [d] }
  | _ => none }
def FnDigitsParseAndPrintBackWrongFalsely : Prop := fnDigitsParseAndPrintBackRow.holds Try.pinned (OpenSpec.ofChange fnDigitsParseAndPrintBackWrong)

end Rows
end Go.Proofs.Qxb6600163a
