/-
  No cell of these rows narrows 'for every input' (looked for: loops, veiled, ifaces, maps, wideKeys, modest, calm, conditions, laid).
  DERIVED. THE GIVEN ROWS OF THIS SEAT. 6 by the template 'for every input the law returns true; each argument reads behind the call as it read before'; 0 by the template 'total and deterministic' (their statements: Qxb6600129aTotals.lean).
  GIVEN WITH THE SEED: the statements are not yours to turn. If you find one false, say at which input.
  Laid BY PROGRAM, IN A SANDBOX (cutbox-rows.mjs): the forced cells as the released guide's own fill.sh prints them over the translation 3927d43c4fea712d… (all of the seat's roots in one cut). By AI agents, Wed Nov 11 2026. No macro, syntax, notation, axiom, sorry.
-/
import Derived.Test.Qxb6600129aChecked
import GoSem.Claim
import GoSem.ClaimJoined
import GoSem.ClaimMapViews
import Derived.JoinedTies
import Derived.KernelRfl
namespace Go.Proofs.Qxb6600129a
/- THE CELL 'sum', in the pinned program and in every row, IS THE sha256 OF THE DUMP (.gsa) THAT Qxb6600129aProg.lean LOADS. Nothing in Lean hashes anything: it is a label: what it is worth is what the hold of that sum in a sandbox is worth. -/
noncomputable def Try.pinned : Pinned := { name := "qxb6600129a", sum := "3927d43c4fea712d23318a8e94142c385e5093ca6c0ed345f05d1a79a32668d4", checked := Try.checked }
namespace Rows
def none {H : Type} : Left H := { results := [], args := [] }

/-- 'zzlaws_root_b1.FnV2012ShapeOfEveryAnswer': WHATEVER THE INPUT: true; the input reads as it did. -/
def fnV2012ShapeOfEveryAnswerSpec : ChangeSpec := { name := "fnV2012ShapeOfEveryAnswer", fn := fun _ => fun
  | [d1, d2, d3, d4] => { results := [.lit (.bool true)], args := [d1, d2, d3, d4] }
  | _ => none }
def fnV2012ShapeOfEveryAnswerRow : OpenClaim := { program := "qxb6600129a", sum := "3927d43c4fea712d23318a8e94142c385e5093ca6c0ed345f05d1a79a32668d4", func := "example.com/lapwing/lapwing/zzlaws_root_b1.FnV2012ShapeOfEveryAnswer", spec := "fnV2012ShapeOfEveryAnswer", inPlace := ["internal/bytealg.IndexByteString", "internal/bytealg.IndexString"], named := ["internal/bytealg.MaxLen"], apart := false }
def FnV2012ShapeOfEveryAnswerSaid : Prop := fnV2012ShapeOfEveryAnswerRow.holds Try.pinned (OpenSpec.ofChange fnV2012ShapeOfEveryAnswerSpec)

/-- ITS FALSE NEIGHBOUR: 'it returns false'. Refute it at one input. -/
def fnV2012ShapeOfEveryAnswerWrong : ChangeSpec := { name := "fnV2012ShapeOfEveryAnswer", fn := fun _ => fun
  | [d1, d2, d3, d4] => { results := [.lit (.bool false)], args := [d1, d2, d3, d4] }
  | _ => none }
def FnV2012ShapeOfEveryAnswerWrongFalsely : Prop := fnV2012ShapeOfEveryAnswerRow.holds Try.pinned (OpenSpec.ofChange fnV2012ShapeOfEveryAnswerWrong)

/-- 'zzlaws_root_b1.FnV2012RoleEntryNamesExactlyItsSessions': WHATEVER THE INPUT: true; the input reads as it did. -/
def fnV2012RoleEntryNamesExactlyItsSessionsSpec : ChangeSpec := { name := "fnV2012RoleEntryNamesExactlyItsSessions", fn := fun _ => fun
  | [d1, d2, d3, d4, d5, d6, d7, d8, d9, d10] => { results := [.lit (.bool true)], args := [d1, d2, d3, d4, d5, d6, d7, d8, d9, d10] }
  | _ => none }
def fnV2012RoleEntryNamesExactlyItsSessionsRow : OpenClaim := { program := "qxb6600129a", sum := "3927d43c4fea712d23318a8e94142c385e5093ca6c0ed345f05d1a79a32668d4", func := "example.com/lapwing/lapwing/zzlaws_root_b1.FnV2012RoleEntryNamesExactlyItsSessions", spec := "fnV2012RoleEntryNamesExactlyItsSessions", inPlace := ["internal/bytealg.IndexByteString", "internal/bytealg.IndexString"], named := ["internal/bytealg.MaxLen"], apart := false }
def FnV2012RoleEntryNamesExactlyItsSessionsSaid : Prop := fnV2012RoleEntryNamesExactlyItsSessionsRow.holds Try.pinned (OpenSpec.ofChange fnV2012RoleEntryNamesExactlyItsSessionsSpec)

/-- ITS FALSE NEIGHBOUR: 'it returns false'. Refute it at one input. -/
def fnV2012RoleEntryNamesExactlyItsSessionsWrong : ChangeSpec := { name := "fnV2012RoleEntryNamesExactlyItsSessions", fn := fun _ => fun
  | [d1, d2, d3, d4, d5, d6, d7, d8, d9, d10] => { results := [.lit (.bool false)], args := [d1, d2, d3, d4, d5, d6, d7, d8, d9, d10] }
  | _ => none }
def FnV2012RoleEntryNamesExactlyItsSessionsWrongFalsely : Prop := fnV2012RoleEntryNamesExactlyItsSessionsRow.holds Try.pinned (OpenSpec.ofChange fnV2012RoleEntryNamesExactlyItsSessionsWrong)

/-- 'zzlaws_root_b1.FnV2012RootEntryNamesExactlyItsAccount': WHATEVER THE INPUT: true; the input reads as it did. -/
def fnV2012RootEntryNamesExactlyItsAccountSpec : ChangeSpec := { name := "fnV2012RootEntryNamesExactlyItsAccount", fn := fun _ => fun
  | [d1, d2, d3, d4, d5] => { results := [.lit (.bool true)], args := [d1, d2, d3, d4, d5] }
  | _ => none }
def fnV2012RootEntryNamesExactlyItsAccountRow : OpenClaim := { program := "qxb6600129a", sum := "3927d43c4fea712d23318a8e94142c385e5093ca6c0ed345f05d1a79a32668d4", func := "example.com/lapwing/lapwing/zzlaws_root_b1.FnV2012RootEntryNamesExactlyItsAccount", spec := "fnV2012RootEntryNamesExactlyItsAccount", inPlace := ["internal/bytealg.IndexByteString", "internal/bytealg.IndexString"], named := ["internal/bytealg.MaxLen"], apart := false }
def FnV2012RootEntryNamesExactlyItsAccountSaid : Prop := fnV2012RootEntryNamesExactlyItsAccountRow.holds Try.pinned (OpenSpec.ofChange fnV2012RootEntryNamesExactlyItsAccountSpec)

/-- ITS FALSE NEIGHBOUR: 'it returns false'. Refute it at one input. -/
def fnV2012RootEntryNamesExactlyItsAccountWrong : ChangeSpec := { name := "fnV2012RootEntryNamesExactlyItsAccount", fn := fun _ => fun
  | [d1, d2, d3, d4, d5] => { results := [.lit (.bool false)], args := [d1, d2, d3, d4, d5] }
  | _ => none }
def FnV2012RootEntryNamesExactlyItsAccountWrongFalsely : Prop := fnV2012RootEntryNamesExactlyItsAccountRow.holds Try.pinned (OpenSpec.ofChange fnV2012RootEntryNamesExactlyItsAccountWrong)

/-- 'zzlaws_root_b1.FnTooDeepFirstOffsetIsMinimal': WHATEVER THE INPUT: true; the input reads as it did. -/
def fnTooDeepFirstOffsetIsMinimalSpec : ChangeSpec := { name := "fnTooDeepFirstOffsetIsMinimal", fn := fun _ => fun
  | [d1, d2] => { results := [.lit (.bool true)], args := [d1, d2] }
  | _ => none }
def fnTooDeepFirstOffsetIsMinimalRow : OpenClaim := { program := "qxb6600129a", sum := "3927d43c4fea712d23318a8e94142c385e5093ca6c0ed345f05d1a79a32668d4", func := "example.com/lapwing/lapwing/zzlaws_root_b1.FnTooDeepFirstOffsetIsMinimal", spec := "fnTooDeepFirstOffsetIsMinimal", apart := false }
def FnTooDeepFirstOffsetIsMinimalSaid : Prop := fnTooDeepFirstOffsetIsMinimalRow.holds Try.pinned (OpenSpec.ofChange fnTooDeepFirstOffsetIsMinimalSpec)

/-- ITS FALSE NEIGHBOUR: 'it returns false'. Refute it at one input. -/
def fnTooDeepFirstOffsetIsMinimalWrong : ChangeSpec := { name := "fnTooDeepFirstOffsetIsMinimal", fn := fun _ => fun
  | [d1, d2] => { results := [.lit (.bool false)], args := [d1, d2] }
  | _ => none }
def FnTooDeepFirstOffsetIsMinimalWrongFalsely : Prop := fnTooDeepFirstOffsetIsMinimalRow.holds Try.pinned (OpenSpec.ofChange fnTooDeepFirstOffsetIsMinimalWrong)

/-- 'zzlaws_root_b1.FnTooDeepSkipsStringLiterals': WHATEVER THE INPUT: true; the input reads as it did. -/
def fnTooDeepSkipsStringLiteralsSpec : ChangeSpec := { name := "fnTooDeepSkipsStringLiterals", fn := fun _ => fun
  | [d1, d2] => { results := [.lit (.bool true)], args := [d1, d2] }
  | _ => none }
def fnTooDeepSkipsStringLiteralsRow : OpenClaim := { program := "qxb6600129a", sum := "3927d43c4fea712d23318a8e94142c385e5093ca6c0ed345f05d1a79a32668d4", func := "example.com/lapwing/lapwing/zzlaws_root_b1.FnTooDeepSkipsStringLiterals", spec := "fnTooDeepSkipsStringLiterals", apart := false }
def FnTooDeepSkipsStringLiteralsSaid : Prop := fnTooDeepSkipsStringLiteralsRow.holds Try.pinned (OpenSpec.ofChange fnTooDeepSkipsStringLiteralsSpec)

/-- ITS FALSE NEIGHBOUR: 'it returns false'. Refute it at one input. -/
def fnTooDeepSkipsStringLiteralsWrong : ChangeSpec := { name := "fnTooDeepSkipsStringLiterals", fn := fun _ => fun
  | [d1, d2] => { results := [.lit (.bool false)], args := [d1, d2] }
  | _ => none }
def FnTooDeepSkipsStringLiteralsWrongFalsely : Prop := fnTooDeepSkipsStringLiteralsRow.holds Try.pinned (OpenSpec.ofChange fnTooDeepSkipsStringLiteralsWrong)

/-- 'zzlaws_root_b1.FnTooDeepRefusesExactlyPast64': WHATEVER THE INPUT: true; the input reads as it did. -/
def fnTooDeepRefusesExactlyPast64Spec : ChangeSpec := { name := "fnTooDeepRefusesExactlyPast64", fn := fun _ => fun
  | [d] => { results := [.lit (.bool true)], args := [d] }
  | _ => none }
def fnTooDeepRefusesExactlyPast64Row : OpenClaim := { program := "qxb6600129a", sum := "3927d43c4fea712d23318a8e94142c385e5093ca6c0ed345f05d1a79a32668d4", func := "example.com/lapwing/lapwing/zzlaws_root_b1.FnTooDeepRefusesExactlyPast64", spec := "fnTooDeepRefusesExactlyPast64", apart := false }
def FnTooDeepRefusesExactlyPast64Said : Prop := fnTooDeepRefusesExactlyPast64Row.holds Try.pinned (OpenSpec.ofChange fnTooDeepRefusesExactlyPast64Spec)

/-- ITS FALSE NEIGHBOUR: 'it returns false'. Refute it at one input. -/
def fnTooDeepRefusesExactlyPast64Wrong : ChangeSpec := { name := "fnTooDeepRefusesExactlyPast64", fn := fun _ => fun
  | [d] => { results := [.lit (.bool false)], args := [d] }
  | _ => none }
def FnTooDeepRefusesExactlyPast64WrongFalsely : Prop := fnTooDeepRefusesExactlyPast64Row.holds Try.pinned (OpenSpec.ofChange fnTooDeepRefusesExactlyPast64Wrong)

end Rows
end Go.Proofs.Qxb6600129a
