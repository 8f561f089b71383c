/-
  THE PLAIN LAWS OF HEXADECIMAL DIGITS: no Go in sight.
-/
namespace Go.Proofs.Qxb6600068a.Plain

def isHexB (c : Int) : Bool := decide ((48 ≤ c ∧ c ≤ 57) ∨ (97 ≤ c ∧ c ≤ 102) ∨ (65 ≤ c ∧ c ≤ 70))
/-- What a digit stands for. -/
def hx (c : Int) : Int := if c ≤ 57 then c - 48 else if c ≤ 70 then c - 55 else c - 87
/-- The digit for d, in either case. -/
def hd (d : Int) (u : Bool) : Int := if d < 10 then 48 + d else if u = true then 65 + d - 10 else 97 + d - 10
def lower (c : Int) : Int := if 65 ≤ c ∧ c ≤ 70 then c + 32 else c
theorem hex_iff (c : Int) : isHexB c = true ↔ ((48 ≤ c ∧ c ≤ 57) ∨ (97 ≤ c ∧ c ≤ 102) ∨ (65 ≤ c ∧ c ≤ 70)) := by simp [isHexB]
theorem hx_range (c : Int) (h : isHexB c = true) : 0 ≤ hx c ∧ hx c ≤ 15 := by
  rw [hex_iff] at h
  unfold hx
  repeat' split
  all_goals omega
theorem hx_hd (d : Int) (u : Bool) (h0 : 0 ≤ d) (h1 : d ≤ 15) : hx (hd d u) = d := by
  unfold hd hx
  cases u <;> simp <;> repeat' split
  all_goals omega
theorem isHex_hd (d : Int) (u : Bool) (h0 : 0 ≤ d) (h1 : d ≤ 15) : isHexB (hd d u) = true := by
  rw [hex_iff]
  unfold hd
  cases u <;> simp <;> repeat' split
  all_goals omega
theorem hd_range (d : Int) (u : Bool) (h0 : 0 ≤ d) (h1 : d ≤ 15) : 0 ≤ hd d u ∧ hd d u ≤ 255 := by
  unfold hd
  cases u <;> simp <;> repeat' split
  all_goals omega
theorem hd_hx (c : Int) (h : isHexB c = true) : hd (hx c) false = lower c := by
  rw [hex_iff] at h
  unfold hd hx lower
  simp
  repeat' split
  all_goals omega
/-- The value of the first k digits. -/
def vl (zs : List Int) : Nat → Int
  | 0 => 0
  | k + 1 => vl zs k * 16 + hx (zs.getD k 0)
theorem vl_range (zs : List Int) (k : Nat) (hk : k ≤ 4) (h : ∀ j, j < 4 → isHexB (zs.getD j 0) = true) : 0 ≤ vl zs k ∧ vl zs k < 16 ^ k := by
  induction k with
  | zero => simp [vl]
  | succ k ih =>
    have := ih (by omega)
    have h2 := hx_range _ (h k (by omega))
    simp only [vl, Int.pow_succ]
    omega
#print axioms hd_hx
#print axioms vl_range
end Go.Proofs.Qxb6600068a.Plain
