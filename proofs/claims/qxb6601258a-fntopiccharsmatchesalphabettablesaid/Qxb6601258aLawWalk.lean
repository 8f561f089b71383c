/-
  THE WALK OF 'FnTopicCharsMatchesAlphabetTable'.
-/
import Derived.Test.Qxb6601258aWalkB
import Derived.RowKit3
namespace Go.Proofs.Qxb6601258a.fnTopicCharsMatchesAlphabetTable
open Go.RowKit Go.Proofs.Qxb6601258a.TopicWalk
set_option linter.unusedVariables false

theorem walk (a0 : ByteArray) (w0 : a0.size ≤ maxLen) (w : World) :
    Calls Try.prog 3 #[.string a0] w fun e w' => e = .returned (.bool true) ∧ Grown w w' := by
  by_cases hbig : (1048576 : Int) < (a0.size : Int)
  · go_enter Try.func3, Try.ntmps3
    go_wp2
    go_ret
    exact ⟨rfl, Grown.refl _⟩
  · have hs : a0.size ≤ 1048576 := by omega
    go_enter Try.func3, Try.ntmps3
    go_wp2_with (first | (go_at_call 7; refine (zz_any _ _ hs).mono ?_; rintro e w' ⟨rfl, rfl⟩) | (go_at_call 8; refine (model_any _ _ hs).mono ?_; rintro e w' ⟨rfl, rfl⟩) | (go_at_call 6; go_in))
    go_ret
    exact ⟨ret_bool (by simp), Grown.refl _⟩
#print axioms walk
end Go.Proofs.Qxb6601258a.fnTopicCharsMatchesAlphabetTable
