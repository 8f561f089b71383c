/-
  No cell of these rows narrows 'for every input' (looked for: loops, veiled, ifaces, maps, wideKeys, modest, calm, conditions, laid).
  DERIVED. THE GIVEN ROWS OF THIS SEAT. 3 by the template 'for every input the law returns true; each argument reads behind the call as it read before'; 0 by the template 'total and deterministic' (their statements: Qxb6601258aTotals.lean).
  GIVEN WITH THE SEED: the statements are not yours to turn. If you find one false, say at which input.
  Laid BY PROGRAM, IN A SANDBOX (cutbox-rows.mjs): the forced cells as the released guide's own fill.sh prints them over the translation 2d5a6dfe176461eb… (all of the seat's roots in one cut). By AI agents, Wed Nov 11 2026. No macro, syntax, notation, axiom, sorry.
-/
import Derived.Test.Qxb6601258aChecked
import GoSem.Claim
import GoSem.ClaimJoined
import GoSem.ClaimMapViews
import Derived.JoinedTies
import Derived.KernelRfl
namespace Go.Proofs.Qxb6601258a
/- THE CELL 'sum', in the pinned program and in every row, IS THE sha256 OF THE DUMP (.gsa) THAT Qxb6601258aProg.lean LOADS. Nothing in Lean hashes anything: it is a label: what it is worth is what the hold of that sum in a sandbox is worth. -/
noncomputable def Try.pinned : Pinned := { name := "qxb6601258a", sum := "2d5a6dfe176461ebd9ed9045eac889107cc8d6e1dd6b7a56b81cac6550180af7", checked := Try.checked }
namespace Rows
def none {H : Type} : Left H := { results := [], args := [] }

/-- 'zzlaws_entry_b1.FnTopicCharsMatchesAlphabetTable': WHATEVER THE INPUT: true; the input reads as it did. -/
def fnTopicCharsMatchesAlphabetTableSpec : ChangeSpec := { name := "fnTopicCharsMatchesAlphabetTable", fn := fun _ => fun
  | [d] => { results := [.lit (.bool true)], args := [d] }
  | _ => none }
def fnTopicCharsMatchesAlphabetTableRow : OpenClaim := { program := "qxb6601258a", sum := "2d5a6dfe176461ebd9ed9045eac889107cc8d6e1dd6b7a56b81cac6550180af7", func := "example.com/rumorwire/rumorwire/zzlaws_entry_b1.FnTopicCharsMatchesAlphabetTable", spec := "fnTopicCharsMatchesAlphabetTable", apart := false }
def FnTopicCharsMatchesAlphabetTableSaid : Prop := fnTopicCharsMatchesAlphabetTableRow.holds Try.pinned (OpenSpec.ofChange fnTopicCharsMatchesAlphabetTableSpec)

/-- ITS FALSE NEIGHBOUR: 'it returns false'. Refute it at one input. -/
def fnTopicCharsMatchesAlphabetTableWrong : ChangeSpec := { name := "fnTopicCharsMatchesAlphabetTable", fn := fun _ => fun
  | [d] => { results := [.lit (.bool false)], args := [d] }
  | _ => none }
def FnTopicCharsMatchesAlphabetTableWrongFalsely : Prop := fnTopicCharsMatchesAlphabetTableRow.holds Try.pinned (OpenSpec.ofChange fnTopicCharsMatchesAlphabetTableWrong)

/-- 'zzlaws_entry_b1.FnTopicCharsConcatSplits': WHATEVER THE INPUT: true; the input reads as it did. -/
def fnTopicCharsConcatSplitsSpec : ChangeSpec := { name := "fnTopicCharsConcatSplits", fn := fun _ => fun
  | [d1, d2] => { results := [.lit (.bool true)], args := [d1, d2] }
  | _ => none }
def fnTopicCharsConcatSplitsRow : OpenClaim := { program := "qxb6601258a", sum := "2d5a6dfe176461ebd9ed9045eac889107cc8d6e1dd6b7a56b81cac6550180af7", func := "example.com/rumorwire/rumorwire/zzlaws_entry_b1.FnTopicCharsConcatSplits", spec := "fnTopicCharsConcatSplits", apart := false }
def FnTopicCharsConcatSplitsSaid : Prop := fnTopicCharsConcatSplitsRow.holds Try.pinned (OpenSpec.ofChange fnTopicCharsConcatSplitsSpec)

/-- ITS FALSE NEIGHBOUR: 'it returns false'. Refute it at one input. -/
def fnTopicCharsConcatSplitsWrong : ChangeSpec := { name := "fnTopicCharsConcatSplits", fn := fun _ => fun
  | [d1, d2] => { results := [.lit (.bool false)], args := [d1, d2] }
  | _ => none }
def FnTopicCharsConcatSplitsWrongFalsely : Prop := fnTopicCharsConcatSplitsRow.holds Try.pinned (OpenSpec.ofChange fnTopicCharsConcatSplitsWrong)

/-- 'zzlaws_entry_b1.FnTopicCharsSubstringsValid': WHATEVER THE INPUT: true; the input reads as it did. -/
def fnTopicCharsSubstringsValidSpec : ChangeSpec := { name := "fnTopicCharsSubstringsValid", fn := fun _ => fun
  | [d] => { results := [.lit (.bool true)], args := [d] }
  | _ => none }
def fnTopicCharsSubstringsValidRow : OpenClaim := { program := "qxb6601258a", sum := "2d5a6dfe176461ebd9ed9045eac889107cc8d6e1dd6b7a56b81cac6550180af7", func := "example.com/rumorwire/rumorwire/zzlaws_entry_b1.FnTopicCharsSubstringsValid", spec := "fnTopicCharsSubstringsValid", apart := false }
def FnTopicCharsSubstringsValidSaid : Prop := fnTopicCharsSubstringsValidRow.holds Try.pinned (OpenSpec.ofChange fnTopicCharsSubstringsValidSpec)

/-- ITS FALSE NEIGHBOUR: 'it returns false'. Refute it at one input. -/
def fnTopicCharsSubstringsValidWrong : ChangeSpec := { name := "fnTopicCharsSubstringsValid", fn := fun _ => fun
  | [d] => { results := [.lit (.bool false)], args := [d] }
  | _ => none }
def FnTopicCharsSubstringsValidWrongFalsely : Prop := fnTopicCharsSubstringsValidRow.holds Try.pinned (OpenSpec.ofChange fnTopicCharsSubstringsValidWrong)

end Rows
end Go.Proofs.Qxb6601258a
