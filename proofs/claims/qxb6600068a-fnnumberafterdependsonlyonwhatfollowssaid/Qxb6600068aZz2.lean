/-
  numberAfter's TWO ANSWERS, apart; what was read is read again.
-/
import Derived.Test.Qxb6600068aZz
namespace Go.Proofs.Qxb6600068a.NumWalk
open Go.RowKit Go.Proofs.Qxb6600068a.Plain

theorem zz_none (b off len cap i0 : Nat) (zs : List Int) (w : World) (hB : Bytes w b off len zs) (hi : i0 < len) (h : nN (zs.drop i0) = none) :
    Calls Try.prog 13 #[.slice (some ⟨b, off, none⟩) len cap, .int .i64 i0] w fun e w' => e = .returned (.int .i64 (-1)) ∧ w' = w := by
  have := zz_any b off len cap i0 zs w hB hi
  rw [at_none h] at this
  exact this
theorem zz_some (b off len cap i0 k : Nat) (zs : List Int) (w : World) (hB : Bytes w b off len zs) (hi : i0 < len) (h : nN (zs.drop i0) = some k) :
    Calls Try.prog 13 #[.slice (some ⟨b, off, none⟩) len cap, .int .i64 i0] w fun e w' => e = .returned (.int .i64 ((i0 : Int) + (k : Int))) ∧ w' = w := by
  have := zz_any b off len cap i0 zs w hB hi
  rw [at_some h, Int.natCast_add] at this
  exact this
theorem zz_zero (b off len cap k : Nat) (zs : List Int) (w : World) (hB : Bytes w b off len zs) (hi : 0 < len) (h : nN zs = some k) :
    Calls Try.prog 13 #[.slice (some ⟨b, off, none⟩) len cap, .int .i64 0] w fun e w' => e = .returned (.int .i64 (k : Int)) ∧ w' = w := by
  have := zz_some b off len cap 0 k zs w hB hi h
  simpa using this
theorem zz_zero_none (b off len cap : Nat) (zs : List Int) (w : World) (hB : Bytes w b off len zs) (hi : 0 < len) (h : nN zs = none) :
    Calls Try.prog 13 #[.slice (some ⟨b, off, none⟩) len cap, .int .i64 0] w fun e w' => e = .returned (.int .i64 (-1)) ∧ w' = w := by
  have := zz_none b off len cap 0 zs w hB hi h
  simpa using this

/-- The text of the number alone. -/
theorem again (ys : List Int) (n k : Nat) (h : nN (ys.drop n) = some k) : nN ((ys.take (n + k)).drop n) = some k := by
  have := (nN_take _ _ h).2.2.1
  rw [List.drop_take]
  simpa using this
/-- The text of the number, a comma behind it. -/
theorem comma (ys : List Int) (n k : Nat) (h : nN (ys.drop n) = some k) : (splice (List.replicate (k + 1) 0) 0 ((ys.drop n).take k)).set k 44 = (ys.drop n).take k ++ [44] := by
  have hk : k ≤ (ys.drop n).length := (nN_take _ _ h).2.1
  have hl : ((ys.drop n).take k).length = k := by simp at hk ⊢; omega
  generalize (ys.drop n).take k = L at hl
  subst hl
  simp [splice]
theorem again_comma (ys : List Int) (n k : Nat) (h : nN (ys.drop n) = some k) : nN ((splice (List.replicate (k + 1) 0) 0 ((ys.drop n).take k)).set k 44) = some k := by
  rw [comma ys n k h]
  exact (nN_take _ _ h).2.2.2
#print axioms again_comma
end Go.Proofs.Qxb6600068a.NumWalk
