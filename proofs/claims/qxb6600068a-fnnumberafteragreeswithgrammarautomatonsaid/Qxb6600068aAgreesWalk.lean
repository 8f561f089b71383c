/-
  THE WALK OF 'FnNumberAfterAgreesWithGrammarAutomaton'.
-/
import Derived.WalkKit
import Derived.Below
import Derived.Test.Qxb6600068aZz
import Derived.Test.Qxb6600068aAuto
namespace Go.Proofs.Qxb6600068a.fnNumberAfterAgreesWithGrammarAutomaton
open Go.RowKit
open Go.Proofs.Qxb6600068a.NumWalk Go.Proofs.Qxb6600068a.Plain
set_option linter.unusedVariables false

/-- WHAT THE WALK IS TOLD OF A SLICE OF INTEGERS THAT CAME IN: it is nil; or it leads to a row of 'cap' cells, the numbers 'zs' (the first 'len' are its elements, the rest its spare room), each fitting its kind. -/
def IsRow (k : IntKind) (w : World) (a : Option Addr) (len cap : Nat) (zs : List Int) : Prop :=
  (a = none ∧ len = 0 ∧ cap = 0 ∧ zs = []) ∨
  ∃ x, a = some x ∧ len ≤ cap ∧ cap ≤ maxLen ∧ zs.length = cap ∧ (∀ i, i < zs.length → w.cell? (x.add i) = some (.int k (zs.getD i 0))) ∧ ∀ n ∈ zs, (Lit.int k n).wf = true

/-! ### STEP 1: THE WALK: the Go text returns true, AND WRITES NOTHING THAT WAS THERE: 'Below w.heap.size w w'' (Derived/Below.lean: '.refl', '.alloc', '.drew', '.setCell' at a new block, '.trans'). Open each 'IsRow' by 'rcases' AHEAD of 'go_enter'; part every test ahead of the walk. -/
theorem walk (a0 : Option Addr) (len0 cap0 : Nat) (z0 : List Int) (a1 : Int) (w : World) (w0 : IsRow .u8 w a0 len0 cap0 z0) (w1 : (Lit.int .i64 a1).wf = true) :
    Calls Try.prog 3 #[.slice a0 len0 cap0, .int .i64 a1] w fun e w' => e = .returned (.bool true) ∧ Below w.heap.size w w' := by
  by_cases hbig : (1048576 : Int) < (len0 : Int)
  · go_enter Try.func3, Try.ntmps3
    go_wp2
    go_ret
    exact ⟨rfl, Below.refl _ _⟩
  by_cases hneg : a1 < 0
  · go_enter Try.func3, Try.ntmps3
    go_wp2
    go_ret
    exact ⟨rfl, Below.refl _ _⟩
  by_cases hge : (len0 : Int) ≤ a1
  · go_enter Try.func3, Try.ntmps3
    go_wp2
    go_ret
    exact ⟨rfl, Below.refl _ _⟩
  obtain ⟨n, rfl⟩ : ∃ n : Nat, a1 = (n : Int) := ⟨a1.toNat, by omega⟩
  have hn : n < len0 := by omega
  have hl0 : len0 ≤ 1048576 := by omega
  rcases w0 with ⟨_, h0, _, _⟩ | ⟨x, rfl, hlc, _, hz, hc, _⟩
  · omega
  have HY : Hid ((z0.take len0).length = len0) := take_len hz hlc
  have HC : Hid (∀ i, i < len0 → w.cell? (x.add i) = some (.int .u8 ((z0.take len0).getD i 0))) := take_cell hz hlc hc
  clear hz hc hlc hneg hge w1
  generalize z0.take len0 = ys at HY HC
  go_enter Try.func3, Try.ntmps3
  go_wp2_with (first | (go_at_call 12; refine (clone_some x len0 cap0 ys _ (by omega) HY.out HC.out).mono ?_; rintro e w1 ⟨rfl, hO, hb⟩) | (go_at_call 13; refine (zz_any _ _ _ _ n ys _ (hO.bytesAll HY.out (by omega)) hn).mono ?_; rintro e w' ⟨rfl, rfl⟩) | (go_at_call 14; refine (auto_any _ _ _ _ n ys _ (hO.bytesAll HY.out (by omega)) hn).mono ?_; rintro e w' ⟨rfl, rfl⟩) | go_in)
  go_ret
  exact ⟨rfl, hb⟩

end Go.Proofs.Qxb6600068a.fnNumberAfterAgreesWithGrammarAutomaton
