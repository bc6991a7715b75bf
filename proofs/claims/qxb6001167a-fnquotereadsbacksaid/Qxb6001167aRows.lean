/-
  No cell of these rows narrows 'for every input' (looked for: loops, veiled, ifaces, maps, wideKeys, modest, calm, conditions, laid).
  DERIVED. THE GIVEN ROWS OF THIS SEAT. 7 by the template 'for every input the law returns true; each argument reads behind the call as it read before'; 0 by the template 'total and deterministic' (their statements: Qxb6001167aTotals.lean).
  GIVEN WITH THE SEED: the statements are not yours to turn. If you find one false, say at which input.
  Laid BY PROGRAM, IN A SANDBOX (cutbox-rows.mjs): the forced cells as the released guide's own fill.sh prints them over the translation f644aaea13ce93c9… (all of the seat's roots in one cut). By AI agents, Wed Nov 11 2026. No macro, syntax, notation, axiom, sorry.
-/
import Derived.Test.Qxb6001167aChecked
import GoSem.Claim
import GoSem.ClaimJoined
import GoSem.ClaimMapViews
import Derived.JoinedTies
import Derived.KernelRfl
namespace Go.Proofs.Qxb6001167a
/- THE CELL 'sum', in the pinned program and in every row, IS THE sha256 OF THE DUMP (.gsa) THAT Qxb6001167aProg.lean LOADS. Nothing in Lean hashes anything: it is a label: what it is worth is what the hold of that sum in a sandbox is worth. -/
noncomputable def Try.pinned : Pinned := { name := "qxb6001167a", sum := "f644aaea13ce93c9122b2c64d5db30485a1ed3ed6e9d46c582f88a347ae49752", checked := Try.checked }
namespace Rows
def none {H : Type} : Left H := { results := [], args := [] }

/-- 'zzlaws_scenario_b1.FnQuoteReadsBack': WHATEVER THE INPUT: true; the input reads as it did. -/
def fnQuoteReadsBackSpec : ChangeSpec := { name := "fnQuoteReadsBack", fn := fun _ => fun
  | [d] => { results := [.lit (.bool true)], args := [d] }
  | _ => none }
def fnQuoteReadsBackRow : OpenClaim := { program := "qxb6001167a", sum := "f644aaea13ce93c9122b2c64d5db30485a1ed3ed6e9d46c582f88a347ae49752", func := "example.com/lockspell/lockspell/zzlaws_scenario_b1.FnQuoteReadsBack", spec := "fnQuoteReadsBack", inPlace := ["internal/bytealg.IndexByteString", "internal/bytealg.IndexString", "internal/abi.NoEscape", "internal/bytealg.MakeNoZero"], named := ["internal/bytealg.MaxLen"], apart := false }
def FnQuoteReadsBackSaid : Prop := fnQuoteReadsBackRow.holds Try.pinned (OpenSpec.ofChange fnQuoteReadsBackSpec)

/-- ITS FALSE NEIGHBOUR: 'it returns false'. Refute it at one input. -/
def fnQuoteReadsBackWrong : ChangeSpec := { name := "fnQuoteReadsBack", fn := fun _ => fun
  | [d] => { results := [.lit (.bool false)], args := [d] }
  | _ => none }
def FnQuoteReadsBackWrongFalsely : Prop := fnQuoteReadsBackRow.holds Try.pinned (OpenSpec.ofChange fnQuoteReadsBackWrong)

/-- 'zzlaws_scenario_b1.FnQuoteOneLineLiteral': WHATEVER THE INPUT: true; the input reads as it did. -/
def fnQuoteOneLineLiteralSpec : ChangeSpec := { name := "fnQuoteOneLineLiteral", fn := fun _ => fun
  | [d] => { results := [.lit (.bool true)], args := [d] }
  | _ => none }
def fnQuoteOneLineLiteralRow : OpenClaim := { program := "qxb6001167a", sum := "f644aaea13ce93c9122b2c64d5db30485a1ed3ed6e9d46c582f88a347ae49752", func := "example.com/lockspell/lockspell/zzlaws_scenario_b1.FnQuoteOneLineLiteral", spec := "fnQuoteOneLineLiteral", inPlace := ["internal/bytealg.IndexByteString", "internal/bytealg.IndexString", "internal/abi.NoEscape", "internal/bytealg.MakeNoZero"], named := ["internal/bytealg.MaxLen"], apart := false }
def FnQuoteOneLineLiteralSaid : Prop := fnQuoteOneLineLiteralRow.holds Try.pinned (OpenSpec.ofChange fnQuoteOneLineLiteralSpec)

/-- ITS FALSE NEIGHBOUR: 'it returns false'. Refute it at one input. -/
def fnQuoteOneLineLiteralWrong : ChangeSpec := { name := "fnQuoteOneLineLiteral", fn := fun _ => fun
  | [d] => { results := [.lit (.bool false)], args := [d] }
  | _ => none }
def FnQuoteOneLineLiteralWrongFalsely : Prop := fnQuoteOneLineLiteralRow.holds Try.pinned (OpenSpec.ofChange fnQuoteOneLineLiteralWrong)

/-- 'zzlaws_scenario_b1.FnQuoteConcat': WHATEVER THE INPUT: true; the input reads as it did. -/
def fnQuoteConcatSpec : ChangeSpec := { name := "fnQuoteConcat", fn := fun _ => fun
  | [d1, d2] => { results := [.lit (.bool true)], args := [d1, d2] }
  | _ => none }
def fnQuoteConcatRow : OpenClaim := { program := "qxb6001167a", sum := "f644aaea13ce93c9122b2c64d5db30485a1ed3ed6e9d46c582f88a347ae49752", func := "example.com/lockspell/lockspell/zzlaws_scenario_b1.FnQuoteConcat", spec := "fnQuoteConcat", inPlace := ["internal/bytealg.IndexByteString", "internal/bytealg.IndexString", "internal/abi.NoEscape", "internal/bytealg.MakeNoZero"], named := ["internal/bytealg.MaxLen"], apart := false }
def FnQuoteConcatSaid : Prop := fnQuoteConcatRow.holds Try.pinned (OpenSpec.ofChange fnQuoteConcatSpec)

/-- ITS FALSE NEIGHBOUR: 'it returns false'. Refute it at one input. -/
def fnQuoteConcatWrong : ChangeSpec := { name := "fnQuoteConcat", fn := fun _ => fun
  | [d1, d2] => { results := [.lit (.bool false)], args := [d1, d2] }
  | _ => none }
def FnQuoteConcatWrongFalsely : Prop := fnQuoteConcatRow.holds Try.pinned (OpenSpec.ofChange fnQuoteConcatWrong)

/-- 'zzlaws_scenario_b1.FnBlockCommentIgnoresSurroundings': WHATEVER THE INPUT: true; the input reads as it did. -/
def fnBlockCommentIgnoresSurroundingsSpec : ChangeSpec := { name := "fnBlockCommentIgnoresSurroundings", fn := fun _ => fun
  | [d1, d2, d3, d4, d5] => { results := [.lit (.bool true)], args := [d1, d2, d3, d4, d5] }
  | _ => none }
def fnBlockCommentIgnoresSurroundingsRow : OpenClaim := { program := "qxb6001167a", sum := "f644aaea13ce93c9122b2c64d5db30485a1ed3ed6e9d46c582f88a347ae49752", func := "example.com/lockspell/lockspell/zzlaws_scenario_b1.FnBlockCommentIgnoresSurroundings", spec := "fnBlockCommentIgnoresSurroundings", inPlace := ["internal/bytealg.IndexByteString", "internal/bytealg.IndexString", "internal/bytealg.CountString"], named := ["internal/bytealg.MaxLen"], apart := false }
def FnBlockCommentIgnoresSurroundingsSaid : Prop := fnBlockCommentIgnoresSurroundingsRow.holds Try.pinned (OpenSpec.ofChange fnBlockCommentIgnoresSurroundingsSpec)

/-- ITS FALSE NEIGHBOUR: 'it returns false'. Refute it at one input. -/
def fnBlockCommentIgnoresSurroundingsWrong : ChangeSpec := { name := "fnBlockCommentIgnoresSurroundings", fn := fun _ => fun
  | [d1, d2, d3, d4, d5] => { results := [.lit (.bool false)], args := [d1, d2, d3, d4, d5] }
  | _ => none }
def FnBlockCommentIgnoresSurroundingsWrongFalsely : Prop := fnBlockCommentIgnoresSurroundingsRow.holds Try.pinned (OpenSpec.ofChange fnBlockCommentIgnoresSurroundingsWrong)

/-- 'zzlaws_scenario_b1.FnNumberTokenShape': WHATEVER THE INPUT: true; the input reads as it did. -/
def fnNumberTokenShapeSpec : ChangeSpec := { name := "fnNumberTokenShape", fn := fun _ => fun
  | [d1, d2] => { results := [.lit (.bool true)], args := [d1, d2] }
  | _ => none }
def fnNumberTokenShapeRow : OpenClaim := { program := "qxb6001167a", sum := "f644aaea13ce93c9122b2c64d5db30485a1ed3ed6e9d46c582f88a347ae49752", func := "example.com/lockspell/lockspell/zzlaws_scenario_b1.FnNumberTokenShape", spec := "fnNumberTokenShape", inPlace := ["internal/bytealg.IndexByteString"], apart := false }
def FnNumberTokenShapeSaid : Prop := fnNumberTokenShapeRow.holds Try.pinned (OpenSpec.ofChange fnNumberTokenShapeSpec)

/-- ITS FALSE NEIGHBOUR: 'it returns false'. Refute it at one input. -/
def fnNumberTokenShapeWrong : ChangeSpec := { name := "fnNumberTokenShape", fn := fun _ => fun
  | [d1, d2] => { results := [.lit (.bool false)], args := [d1, d2] }
  | _ => none }
def FnNumberTokenShapeWrongFalsely : Prop := fnNumberTokenShapeRow.holds Try.pinned (OpenSpec.ofChange fnNumberTokenShapeWrong)

/-- 'zzlaws_scenario_b1.FnNumberDecimalAndFraction': WHATEVER THE INPUT: true; the input reads as it did. -/
def fnNumberDecimalAndFractionSpec : ChangeSpec := { name := "fnNumberDecimalAndFraction", fn := fun _ => fun
  | [d1, d2, d3] => { results := [.lit (.bool true)], args := [d1, d2, d3] }
  | _ => none }
def fnNumberDecimalAndFractionRow : OpenClaim := { program := "qxb6001167a", sum := "f644aaea13ce93c9122b2c64d5db30485a1ed3ed6e9d46c582f88a347ae49752", func := "example.com/lockspell/lockspell/zzlaws_scenario_b1.FnNumberDecimalAndFraction", spec := "fnNumberDecimalAndFraction", inPlace := ["internal/bytealg.IndexByteString"], apart := false }
def FnNumberDecimalAndFractionSaid : Prop := fnNumberDecimalAndFractionRow.holds Try.pinned (OpenSpec.ofChange fnNumberDecimalAndFractionSpec)

/-- ITS FALSE NEIGHBOUR: 'it returns false'. Refute it at one input. -/
def fnNumberDecimalAndFractionWrong : ChangeSpec := { name := "fnNumberDecimalAndFraction", fn := fun _ => fun
  | [d1, d2, d3] => { results := [.lit (.bool false)], args := [d1, d2, d3] }
  | _ => none }
def FnNumberDecimalAndFractionWrongFalsely : Prop := fnNumberDecimalAndFractionRow.holds Try.pinned (OpenSpec.ofChange fnNumberDecimalAndFractionWrong)

/-- 'zzlaws_scenario_b1.FnNumberLocal': WHATEVER THE INPUT: true; the input reads as it did. -/
def fnNumberLocalSpec : ChangeSpec := { name := "fnNumberLocal", fn := fun _ => fun
  | [d1, d2, d3, d4] => { results := [.lit (.bool true)], args := [d1, d2, d3, d4] }
  | _ => none }
def fnNumberLocalRow : OpenClaim := { program := "qxb6001167a", sum := "f644aaea13ce93c9122b2c64d5db30485a1ed3ed6e9d46c582f88a347ae49752", func := "example.com/lockspell/lockspell/zzlaws_scenario_b1.FnNumberLocal", spec := "fnNumberLocal", inPlace := ["internal/bytealg.IndexByteString"], apart := false }
def FnNumberLocalSaid : Prop := fnNumberLocalRow.holds Try.pinned (OpenSpec.ofChange fnNumberLocalSpec)

/-- ITS FALSE NEIGHBOUR: 'it returns false'. Refute it at one input. -/
def fnNumberLocalWrong : ChangeSpec := { name := "fnNumberLocal", fn := fun _ => fun
  | [d1, d2, d3, d4] => { results := [.lit (.bool false)], args := [d1, d2, d3, d4] }
  | _ => none }
def FnNumberLocalWrongFalsely : Prop := fnNumberLocalRow.holds Try.pinned (OpenSpec.ofChange fnNumberLocalWrong)

end Rows
end Go.Proofs.Qxb6001167a
