/-
  THE PLAIN LAW: the table of forty bytes says what the ranges say.
-/
namespace Go.Proofs.Qxb6601258a.Plain

/-- A byte that a topic name may hold. -/
def okB (c : Int) : Bool := decide (97 ≤ c ∧ c ≤ 122) || decide (48 ≤ c ∧ c ≤ 57) || decide (c = 46) || decide (c = 95) || decide (c = 58) || decide (c = 45)
/-- How many of them the list holds. -/
def good : List Int → Nat
  | [] => 0
  | c :: r => (if okB c = true then 1 else 0) + good r
def allB : List Int → Bool
  | [] => true
  | c :: r => okB c && allB r
theorem good_le (l : List Int) : good l ≤ l.length := by
  induction l with
  | nil => exact Nat.le_refl _
  | cons c r ih => simp only [good, List.length_cons]; split <;> omega
/-- The count is all of the list iff every byte is one of them. -/
theorem good_all (l : List Int) : (good l = l.length) ↔ allB l = true := by
  induction l with
  | nil => simp [good, allB]
  | cons c r ih =>
    have := good_le r
    by_cases h : okB c = true
    · simp only [good, allB, h, List.length_cons, Bool.true_and, if_true]
      rw [← ih]; omega
    · simp only [good, allB, h, List.length_cons, Bool.false_and]
      simp; omega
theorem good_snoc (l : List Int) (c : Int) : good (l ++ [c]) = good l + (if okB c = true then 1 else 0) := by
  induction l with
  | nil => simp [good]
  | cons d r ih => simp only [List.cons_append, good, ih]; omega
theorem allB_snoc (l : List Int) (c : Int) : allB (l ++ [c]) = (allB l && okB c) := by
  induction l with
  | nil => simp [allB]
  | cons d r ih => simp only [List.cons_append, allB, ih, Bool.and_assoc]
theorem allB_append (l m : List Int) : allB (l ++ m) = (allB l && allB m) := by
  induction l with
  | nil => simp [allB]
  | cons d r ih => simp only [List.cons_append, allB, ih, Bool.and_assoc]

/-- The table. -/
def tab : List Int := [97, 98, 99, 100, 101, 102, 103, 104, 105, 106, 107, 108, 109, 110, 111, 112, 113, 114, 115, 116, 117, 118, 119, 120, 121, 122, 48, 49, 50, 51, 52, 53, 54, 55, 56, 57, 46, 95, 58, 45]
theorem tab_ok (c : Int) : c ∈ tab ↔ okB c = true := by
  simp only [tab, List.mem_cons, List.not_mem_nil, or_false, okB, Bool.or_eq_true, decide_eq_true_eq]
  omega
#print axioms tab_ok
end Go.Proofs.Qxb6601258a.Plain
