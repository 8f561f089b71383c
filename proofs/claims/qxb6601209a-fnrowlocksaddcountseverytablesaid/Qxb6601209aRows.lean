/-
  No cell of these rows narrows 'for every input' (looked for: loops, veiled, ifaces, maps, wideKeys, modest, calm, conditions, laid).
  DERIVED. THE GIVEN ROWS OF THIS SEAT. 3 by the template 'for every input the law returns true; each argument reads behind the call as it read before'; 0 by the template 'total and deterministic' (their statements: Qxb6601209aTotals.lean).
  GIVEN WITH THE SEED: the statements are not yours to turn. If you find one false, say at which input.
  Laid BY PROGRAM, IN A SANDBOX (cutbox-rows.mjs): the forced cells as the released guide's own fill.sh prints them over the translation e67e53719681f1be… (all of the seat's roots in one cut). By AI agents, Wed Nov 11 2026. No macro, syntax, notation, axiom, sorry.
-/
import Derived.Test.Qxb6601209aChecked
import GoSem.Claim
import GoSem.ClaimJoined
import GoSem.ClaimMapViews
import Derived.JoinedTies
import Derived.KernelRfl
namespace Go.Proofs.Qxb6601209a
/- THE CELL 'sum', in the pinned program and in every row, IS THE sha256 OF THE DUMP (.gsa) THAT Qxb6601209aProg.lean LOADS. Nothing in Lean hashes anything: it is a label: what it is worth is what the hold of that sum in a sandbox is worth. -/
noncomputable def Try.pinned : Pinned := { name := "qxb6601209a", sum := "e67e53719681f1be1f955926b42ffa265db1262c5316602c958cff6841147195", checked := Try.checked }
namespace Rows
def none {H : Type} : Left H := { results := [], args := [] }

/-- 'zzlaws_root_b1.FnFirstPartsIsTheDeclaredPrefix': WHATEVER THE INPUT: true; the input reads as it did. -/
def fnFirstPartsIsTheDeclaredPrefixSpec : ChangeSpec := { name := "fnFirstPartsIsTheDeclaredPrefix", fn := fun _ => fun
  | [d1, d2] => { results := [.lit (.bool true)], args := [d1, d2] }
  | _ => none }
def fnFirstPartsIsTheDeclaredPrefixRow : OpenClaim := { program := "qxb6601209a", sum := "e67e53719681f1be1f955926b42ffa265db1262c5316602c958cff6841147195", func := "example.com/latchwork/latchwork/zzlaws_root_b1.FnFirstPartsIsTheDeclaredPrefix", spec := "fnFirstPartsIsTheDeclaredPrefix", apart := false }
def FnFirstPartsIsTheDeclaredPrefixSaid : Prop := fnFirstPartsIsTheDeclaredPrefixRow.holds Try.pinned (OpenSpec.ofChange fnFirstPartsIsTheDeclaredPrefixSpec)

/-- ITS FALSE NEIGHBOUR: 'it returns false'. Refute it at one input. -/
def fnFirstPartsIsTheDeclaredPrefixWrong : ChangeSpec := { name := "fnFirstPartsIsTheDeclaredPrefix", fn := fun _ => fun
  | [d1, d2] => { results := [.lit (.bool false)], args := [d1, d2] }
  | _ => none }
def FnFirstPartsIsTheDeclaredPrefixWrongFalsely : Prop := fnFirstPartsIsTheDeclaredPrefixRow.holds Try.pinned (OpenSpec.ofChange fnFirstPartsIsTheDeclaredPrefixWrong)

/-- 'zzlaws_root_b1.FnFirstPartsOfFirstParts': WHATEVER THE INPUT: true; the input reads as it did. -/
def fnFirstPartsOfFirstPartsSpec : ChangeSpec := { name := "fnFirstPartsOfFirstParts", fn := fun _ => fun
  | [d1, d2, d3] => { results := [.lit (.bool true)], args := [d1, d2, d3] }
  | _ => none }
def fnFirstPartsOfFirstPartsRow : OpenClaim := { program := "qxb6601209a", sum := "e67e53719681f1be1f955926b42ffa265db1262c5316602c958cff6841147195", func := "example.com/latchwork/latchwork/zzlaws_root_b1.FnFirstPartsOfFirstParts", spec := "fnFirstPartsOfFirstParts", apart := false }
def FnFirstPartsOfFirstPartsSaid : Prop := fnFirstPartsOfFirstPartsRow.holds Try.pinned (OpenSpec.ofChange fnFirstPartsOfFirstPartsSpec)

/-- ITS FALSE NEIGHBOUR: 'it returns false'. Refute it at one input. -/
def fnFirstPartsOfFirstPartsWrong : ChangeSpec := { name := "fnFirstPartsOfFirstParts", fn := fun _ => fun
  | [d1, d2, d3] => { results := [.lit (.bool false)], args := [d1, d2, d3] }
  | _ => none }
def FnFirstPartsOfFirstPartsWrongFalsely : Prop := fnFirstPartsOfFirstPartsRow.holds Try.pinned (OpenSpec.ofChange fnFirstPartsOfFirstPartsWrong)

/-- 'zzlaws_root_b1.FnRowLocksAddCountsEveryTable': WHATEVER THE INPUT: true; the input reads as it did. -/
def fnRowLocksAddCountsEveryTableSpec : ChangeSpec := { name := "fnRowLocksAddCountsEveryTable", fn := fun _ => fun
  | [d1, d2] => { results := [.lit (.bool true)], args := [d1, d2] }
  | _ => none }
def fnRowLocksAddCountsEveryTableRow : OpenClaim := { program := "qxb6601209a", sum := "e67e53719681f1be1f955926b42ffa265db1262c5316602c958cff6841147195", func := "example.com/latchwork/latchwork/zzlaws_root_b1.FnRowLocksAddCountsEveryTable", spec := "fnRowLocksAddCountsEveryTable", apart := false }
def FnRowLocksAddCountsEveryTableSaid : Prop := fnRowLocksAddCountsEveryTableRow.holds Try.pinned (OpenSpec.ofChange fnRowLocksAddCountsEveryTableSpec)

/-- ITS FALSE NEIGHBOUR: 'it returns false'. Refute it at one input. -/
def fnRowLocksAddCountsEveryTableWrong : ChangeSpec := { name := "fnRowLocksAddCountsEveryTable", fn := fun _ => fun
  | [d1, d2] => { results := [.lit (.bool false)], args := [d1, d2] }
  | _ => none }
def FnRowLocksAddCountsEveryTableWrongFalsely : Prop := fnRowLocksAddCountsEveryTableRow.holds Try.pinned (OpenSpec.ofChange fnRowLocksAddCountsEveryTableWrong)

end Rows
end Go.Proofs.Qxb6601209a
