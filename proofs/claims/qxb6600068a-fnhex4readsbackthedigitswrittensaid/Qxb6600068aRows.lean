/-
  No cell of these rows narrows 'for every input' (looked for: loops, veiled, ifaces, maps, wideKeys, modest, calm, conditions, laid).
  DERIVED. THE GIVEN ROWS OF THIS SEAT. 8 by the template 'for every input the law returns true; each argument reads behind the call as it read before'; 0 by the template 'total and deterministic' (their statements: Qxb6600068aTotals.lean).
  GIVEN WITH THE SEED: the statements are not yours to turn. If you find one false, say at which input.
  Laid BY PROGRAM, IN A SANDBOX (cutbox-rows.mjs): the forced cells as the released guide's own fill.sh prints them over the translation 220e5e092139bed6… (all of the seat's roots in one cut). By AI agents, Wed Nov 11 2026. No macro, syntax, notation, axiom, sorry.
-/
import Derived.Test.Qxb6600068aChecked
import GoSem.Claim
import GoSem.ClaimJoined
import GoSem.ClaimMapViews
import Derived.JoinedTies
import Derived.KernelRfl
namespace Go.Proofs.Qxb6600068a
/- THE CELL 'sum', in the pinned program and in every row, IS THE sha256 OF THE DUMP (.gsa) THAT Qxb6600068aProg.lean LOADS. Nothing in Lean hashes anything: it is a label: what it is worth is what the hold of that sum in a sandbox is worth. -/
noncomputable def Try.pinned : Pinned := { name := "qxb6600068a", sum := "220e5e092139bed6cd7234b64d6d8cfa2c170abc3b3d3f3cd047f54a68c97fcb", checked := Try.checked }
namespace Rows
def none {H : Type} : Left H := { results := [], args := [] }

/-- 'zzlaws_internal_jsonread_b1.FnNumberAfterAgreesWithGrammarAutomaton': WHATEVER THE INPUT: true; the input reads as it did. -/
def fnNumberAfterAgreesWithGrammarAutomatonSpec : ChangeSpec := { name := "fnNumberAfterAgreesWithGrammarAutomaton", fn := fun _ => fun
  | [d1, d2] => { results := [.lit (.bool true)], args := [d1, d2] }
  | _ => none }
def fnNumberAfterAgreesWithGrammarAutomatonRow : OpenClaim := { program := "qxb6600068a", sum := "220e5e092139bed6cd7234b64d6d8cfa2c170abc3b3d3f3cd047f54a68c97fcb", func := "example.com/dialect-bridge/dialect-bridge/zzlaws_internal_jsonread_b1.FnNumberAfterAgreesWithGrammarAutomaton", spec := "fnNumberAfterAgreesWithGrammarAutomaton", apart := false }
def FnNumberAfterAgreesWithGrammarAutomatonSaid : Prop := fnNumberAfterAgreesWithGrammarAutomatonRow.holds Try.pinned (OpenSpec.ofChange fnNumberAfterAgreesWithGrammarAutomatonSpec)

/-- ITS FALSE NEIGHBOUR: 'it returns false'. Refute it at one input. -/
def fnNumberAfterAgreesWithGrammarAutomatonWrong : ChangeSpec := { name := "fnNumberAfterAgreesWithGrammarAutomaton", fn := fun _ => fun
  | [d1, d2] => { results := [.lit (.bool false)], args := [d1, d2] }
  | _ => none }
def FnNumberAfterAgreesWithGrammarAutomatonWrongFalsely : Prop := fnNumberAfterAgreesWithGrammarAutomatonRow.holds Try.pinned (OpenSpec.ofChange fnNumberAfterAgreesWithGrammarAutomatonWrong)

/-- 'zzlaws_internal_jsonread_b1.FnNumberAfterDependsOnlyOnWhatFollows': WHATEVER THE INPUT: true; the input reads as it did. -/
def fnNumberAfterDependsOnlyOnWhatFollowsSpec : ChangeSpec := { name := "fnNumberAfterDependsOnlyOnWhatFollows", fn := fun _ => fun
  | [d1, d2, d3] => { results := [.lit (.bool true)], args := [d1, d2, d3] }
  | _ => none }
def fnNumberAfterDependsOnlyOnWhatFollowsRow : OpenClaim := { program := "qxb6600068a", sum := "220e5e092139bed6cd7234b64d6d8cfa2c170abc3b3d3f3cd047f54a68c97fcb", func := "example.com/dialect-bridge/dialect-bridge/zzlaws_internal_jsonread_b1.FnNumberAfterDependsOnlyOnWhatFollows", spec := "fnNumberAfterDependsOnlyOnWhatFollows", apart := false }
def FnNumberAfterDependsOnlyOnWhatFollowsSaid : Prop := fnNumberAfterDependsOnlyOnWhatFollowsRow.holds Try.pinned (OpenSpec.ofChange fnNumberAfterDependsOnlyOnWhatFollowsSpec)

/-- ITS FALSE NEIGHBOUR: 'it returns false'. Refute it at one input. -/
def fnNumberAfterDependsOnlyOnWhatFollowsWrong : ChangeSpec := { name := "fnNumberAfterDependsOnlyOnWhatFollows", fn := fun _ => fun
  | [d1, d2, d3] => { results := [.lit (.bool false)], args := [d1, d2, d3] }
  | _ => none }
def FnNumberAfterDependsOnlyOnWhatFollowsWrongFalsely : Prop := fnNumberAfterDependsOnlyOnWhatFollowsRow.holds Try.pinned (OpenSpec.ofChange fnNumberAfterDependsOnlyOnWhatFollowsWrong)

/-- 'zzlaws_internal_jsonread_b1.FnNumberAfterEndsWhereItsTextEnds': WHATEVER THE INPUT: true; the input reads as it did. -/
def fnNumberAfterEndsWhereItsTextEndsSpec : ChangeSpec := { name := "fnNumberAfterEndsWhereItsTextEnds", fn := fun _ => fun
  | [d1, d2] => { results := [.lit (.bool true)], args := [d1, d2] }
  | _ => none }
def fnNumberAfterEndsWhereItsTextEndsRow : OpenClaim := { program := "qxb6600068a", sum := "220e5e092139bed6cd7234b64d6d8cfa2c170abc3b3d3f3cd047f54a68c97fcb", func := "example.com/dialect-bridge/dialect-bridge/zzlaws_internal_jsonread_b1.FnNumberAfterEndsWhereItsTextEnds", spec := "fnNumberAfterEndsWhereItsTextEnds", apart := false }
def FnNumberAfterEndsWhereItsTextEndsSaid : Prop := fnNumberAfterEndsWhereItsTextEndsRow.holds Try.pinned (OpenSpec.ofChange fnNumberAfterEndsWhereItsTextEndsSpec)

/-- ITS FALSE NEIGHBOUR: 'it returns false'. Refute it at one input. -/
def fnNumberAfterEndsWhereItsTextEndsWrong : ChangeSpec := { name := "fnNumberAfterEndsWhereItsTextEnds", fn := fun _ => fun
  | [d1, d2] => { results := [.lit (.bool false)], args := [d1, d2] }
  | _ => none }
def FnNumberAfterEndsWhereItsTextEndsWrongFalsely : Prop := fnNumberAfterEndsWhereItsTextEndsRow.holds Try.pinned (OpenSpec.ofChange fnNumberAfterEndsWhereItsTextEndsWrong)

/-- 'zzlaws_internal_jsonread_b1.FnHex4ReadsBackTheDigitsWritten': WHATEVER THE INPUT: true; the input reads as it did. -/
def fnHex4ReadsBackTheDigitsWrittenSpec : ChangeSpec := { name := "fnHex4ReadsBackTheDigitsWritten", fn := fun _ => fun
  | [d1, d2, d3] => { results := [.lit (.bool true)], args := [d1, d2, d3] }
  | _ => none }
def fnHex4ReadsBackTheDigitsWrittenRow : OpenClaim := { program := "qxb6600068a", sum := "220e5e092139bed6cd7234b64d6d8cfa2c170abc3b3d3f3cd047f54a68c97fcb", func := "example.com/dialect-bridge/dialect-bridge/zzlaws_internal_jsonread_b1.FnHex4ReadsBackTheDigitsWritten", spec := "fnHex4ReadsBackTheDigitsWritten", apart := false }
def FnHex4ReadsBackTheDigitsWrittenSaid : Prop := fnHex4ReadsBackTheDigitsWrittenRow.holds Try.pinned (OpenSpec.ofChange fnHex4ReadsBackTheDigitsWrittenSpec)

/-- ITS FALSE NEIGHBOUR: 'it returns false'. Refute it at one input. -/
def fnHex4ReadsBackTheDigitsWrittenWrong : ChangeSpec := { name := "fnHex4ReadsBackTheDigitsWritten", fn := fun _ => fun
  | [d1, d2, d3] => { results := [.lit (.bool false)], args := [d1, d2, d3] }
  | _ => none }
def FnHex4ReadsBackTheDigitsWrittenWrongFalsely : Prop := fnHex4ReadsBackTheDigitsWrittenRow.holds Try.pinned (OpenSpec.ofChange fnHex4ReadsBackTheDigitsWrittenWrong)

/-- 'zzlaws_internal_jsonread_b1.FnHex4OfHexDigitsEncodesBackToThem': WHATEVER THE INPUT: true; the input reads as it did. -/
def fnHex4OfHexDigitsEncodesBackToThemSpec : ChangeSpec := { name := "fnHex4OfHexDigitsEncodesBackToThem", fn := fun _ => fun
  | [d] => { results := [.lit (.bool true)], args := [d] }
  | _ => none }
def fnHex4OfHexDigitsEncodesBackToThemRow : OpenClaim := { program := "qxb6600068a", sum := "220e5e092139bed6cd7234b64d6d8cfa2c170abc3b3d3f3cd047f54a68c97fcb", func := "example.com/dialect-bridge/dialect-bridge/zzlaws_internal_jsonread_b1.FnHex4OfHexDigitsEncodesBackToThem", spec := "fnHex4OfHexDigitsEncodesBackToThem", apart := false }
def FnHex4OfHexDigitsEncodesBackToThemSaid : Prop := fnHex4OfHexDigitsEncodesBackToThemRow.holds Try.pinned (OpenSpec.ofChange fnHex4OfHexDigitsEncodesBackToThemSpec)

/-- ITS FALSE NEIGHBOUR: 'it returns false'. Refute it at one input. -/
def fnHex4OfHexDigitsEncodesBackToThemWrong : ChangeSpec := { name := "fnHex4OfHexDigitsEncodesBackToThem", fn := fun _ => fun
  | [d] => { results := [.lit (.bool false)], args := [d] }
  | _ => none }
def FnHex4OfHexDigitsEncodesBackToThemWrongFalsely : Prop := fnHex4OfHexDigitsEncodesBackToThemRow.holds Try.pinned (OpenSpec.ofChange fnHex4OfHexDigitsEncodesBackToThemWrong)

/-- 'zzlaws_internal_jsonread_b1.FnStringEndAgreesWithEscapeScanner': WHATEVER THE INPUT: true; the input reads as it did. -/
def fnStringEndAgreesWithEscapeScannerSpec : ChangeSpec := { name := "fnStringEndAgreesWithEscapeScanner", fn := fun _ => fun
  | [d] => { results := [.lit (.bool true)], args := [d] }
  | _ => none }
def fnStringEndAgreesWithEscapeScannerRow : OpenClaim := { program := "qxb6600068a", sum := "220e5e092139bed6cd7234b64d6d8cfa2c170abc3b3d3f3cd047f54a68c97fcb", func := "example.com/dialect-bridge/dialect-bridge/zzlaws_internal_jsonread_b1.FnStringEndAgreesWithEscapeScanner", spec := "fnStringEndAgreesWithEscapeScanner", inPlace := ["internal/bytealg.IndexByte"], apart := false }
def FnStringEndAgreesWithEscapeScannerSaid : Prop := fnStringEndAgreesWithEscapeScannerRow.holds Try.pinned (OpenSpec.ofChange fnStringEndAgreesWithEscapeScannerSpec)

/-- ITS FALSE NEIGHBOUR: 'it returns false'. Refute it at one input. -/
def fnStringEndAgreesWithEscapeScannerWrong : ChangeSpec := { name := "fnStringEndAgreesWithEscapeScanner", fn := fun _ => fun
  | [d] => { results := [.lit (.bool false)], args := [d] }
  | _ => none }
def FnStringEndAgreesWithEscapeScannerWrongFalsely : Prop := fnStringEndAgreesWithEscapeScannerRow.holds Try.pinned (OpenSpec.ofChange fnStringEndAgreesWithEscapeScannerWrong)

/-- 'zzlaws_internal_jsonread_b1.FnStringEndIsFixedByTheBytesUpToIt': WHATEVER THE INPUT: true; the input reads as it did. -/
def fnStringEndIsFixedByTheBytesUpToItSpec : ChangeSpec := { name := "fnStringEndIsFixedByTheBytesUpToIt", fn := fun _ => fun
  | [d1, d2] => { results := [.lit (.bool true)], args := [d1, d2] }
  | _ => none }
def fnStringEndIsFixedByTheBytesUpToItRow : OpenClaim := { program := "qxb6600068a", sum := "220e5e092139bed6cd7234b64d6d8cfa2c170abc3b3d3f3cd047f54a68c97fcb", func := "example.com/dialect-bridge/dialect-bridge/zzlaws_internal_jsonread_b1.FnStringEndIsFixedByTheBytesUpToIt", spec := "fnStringEndIsFixedByTheBytesUpToIt", inPlace := ["internal/bytealg.IndexByte"], apart := false }
def FnStringEndIsFixedByTheBytesUpToItSaid : Prop := fnStringEndIsFixedByTheBytesUpToItRow.holds Try.pinned (OpenSpec.ofChange fnStringEndIsFixedByTheBytesUpToItSpec)

/-- ITS FALSE NEIGHBOUR: 'it returns false'. Refute it at one input. -/
def fnStringEndIsFixedByTheBytesUpToItWrong : ChangeSpec := { name := "fnStringEndIsFixedByTheBytesUpToIt", fn := fun _ => fun
  | [d1, d2] => { results := [.lit (.bool false)], args := [d1, d2] }
  | _ => none }
def FnStringEndIsFixedByTheBytesUpToItWrongFalsely : Prop := fnStringEndIsFixedByTheBytesUpToItRow.holds Try.pinned (OpenSpec.ofChange fnStringEndIsFixedByTheBytesUpToItWrong)

/-- 'zzlaws_internal_jsonread_b1.FnStringEndFindsTheQuoteAnEncoderCloses': WHATEVER THE INPUT: true; the input reads as it did. -/
def fnStringEndFindsTheQuoteAnEncoderClosesSpec : ChangeSpec := { name := "fnStringEndFindsTheQuoteAnEncoderCloses", fn := fun _ => fun
  | [d1, d2] => { results := [.lit (.bool true)], args := [d1, d2] }
  | _ => none }
def fnStringEndFindsTheQuoteAnEncoderClosesRow : OpenClaim := { program := "qxb6600068a", sum := "220e5e092139bed6cd7234b64d6d8cfa2c170abc3b3d3f3cd047f54a68c97fcb", func := "example.com/dialect-bridge/dialect-bridge/zzlaws_internal_jsonread_b1.FnStringEndFindsTheQuoteAnEncoderCloses", spec := "fnStringEndFindsTheQuoteAnEncoderCloses", inPlace := ["internal/bytealg.IndexByte"], apart := false }
def FnStringEndFindsTheQuoteAnEncoderClosesSaid : Prop := fnStringEndFindsTheQuoteAnEncoderClosesRow.holds Try.pinned (OpenSpec.ofChange fnStringEndFindsTheQuoteAnEncoderClosesSpec)

/-- ITS FALSE NEIGHBOUR: 'it returns false'. Refute it at one input. -/
def fnStringEndFindsTheQuoteAnEncoderClosesWrong : ChangeSpec := { name := "fnStringEndFindsTheQuoteAnEncoderCloses", fn := fun _ => fun
  | [d1, d2] => { results := [.lit (.bool false)], args := [d1, d2] }
  | _ => none }
def FnStringEndFindsTheQuoteAnEncoderClosesWrongFalsely : Prop := fnStringEndFindsTheQuoteAnEncoderClosesRow.holds Try.pinned (OpenSpec.ofChange fnStringEndFindsTheQuoteAnEncoderClosesWrong)

end Rows
end Go.Proofs.Qxb6600068a
