/-
  THE SCANNER's STEPS, AT AN INDEX: no Go in sight.
-/
import Derived.Test.Qxb6600068aPlain
namespace Go.Proofs.Qxb6600068a.Plain

theorem drop_cons (zs : List Int) (k : Nat) (h : k < zs.length) : zs.drop k = zs.getD k 0 :: zs.drop (k + 1) := by
  rw [List.drop_eq_getElem_cons h]
  simp [List.getD, h]
theorem dl_hit (zs : List Int) (k : Nat) (c : Int) (hc : c = zs.getD k 0) (h : k < zs.length) (hd : isD c = true) : k + dl (zs.drop k) = (k + 1) + dl (zs.drop (k + 1)) := by
  rw [drop_cons zs k h, ← hc]
  simp [dl, hd]; omega
theorem dl_miss (zs : List Int) (k : Nat) (c : Int) (hc : c = zs.getD k 0) (h : k < zs.length) (hd : isD c = false) : k + dl (zs.drop k) = k := by
  rw [drop_cons zs k h, ← hc]
  simp [dl, hd]
theorem dl_end (zs : List Int) (k : Nat) (h : ¬ k < zs.length) : k + dl (zs.drop k) = k := by
  rw [List.drop_eq_nil_of_le (by omega)]
  rfl
theorem dl_le (l : List Int) : dl l ≤ l.length := by
  induction l with
  | nil => exact Nat.le_refl _
  | cons c r ih => simp only [dl]; split <;> simp <;> omega

/-- Where the digits from i on end. -/
def dg (zs : List Int) (i : Nat) : Nat := i + dl (zs.drop i)
theorem dg_le (zs : List Int) (i : Nat) (h : i ≤ zs.length) : i ≤ dg zs i ∧ dg zs i ≤ zs.length := by
  have := dl_le (zs.drop i)
  simp at this
  unfold dg
  omega

theorem at_up {f g : List Int → Option Nat} {zs : List Int} {j n : Nat} (h : f (zs.drop j) = up n (g (zs.drop (j + n)))) : at' f zs j = at' g zs (j + n) := by
  unfold at'
  rw [h]
  cases g (zs.drop (j + n)) with
  | none => rfl
  | some k => simp [up]; omega
theorem at_same {f g : List Int → Option Nat} {zs : List Int} {j : Nat} (h : f (zs.drop j) = g (zs.drop j)) : at' f zs j = at' g zs j := by
  unfold at'; rw [h]
theorem at_none {f : List Int → Option Nat} {zs : List Int} {j : Nat} (h : f (zs.drop j) = none) : at' f zs j = -1 := by
  unfold at'; rw [h]
theorem at_some {f : List Int → Option Nat} {zs : List Int} {j k : Nat} (h : f (zs.drop j) = some k) : at' f zs j = ((j + k : Nat) : Int) := by
  unfold at'; rw [h]
theorem drop_end (zs : List Int) (j : Nat) (h : ¬ j < zs.length) : zs.drop j = [] := List.drop_eq_nil_of_le (by omega)

section
variable {zs : List Int} {j : Nat} {c : Int}
theorem N_minus (h : j < zs.length) (hc : c = zs.getD j 0) (e : c = 45) : at' nN zs j = at' nI zs (j + 1) :=
  at_up (by rw [drop_cons zs j h, ← hc]; simp [nN, e])
theorem N_other (h : j < zs.length) (hc : c = zs.getD j 0) (e : ¬ c = 45) : at' nN zs j = at' nI zs j :=
  at_same (by rw [drop_cons zs j h, ← hc]; simp [nN, e])
theorem I_zero (h : j < zs.length) (hc : c = zs.getD j 0) (e : c = 48) : at' nI zs j = at' nF zs (j + 1) :=
  at_up (by rw [drop_cons zs j h, ← hc]; simp [nI, e])
theorem drop_dl (l : List Int) (c : Int) (r : List Int) (hl : l = c :: r) (hd : isD c = true) : dl l = dl r + 1 ∧ l.drop (dl l) = r.drop (dl r) := by
  subst hl
  simp [dl, hd]
theorem I_digit (h : j < zs.length) (hc : c = zs.getD j 0) (e0 : ¬ c = 48) (e : isD c = true) : at' nI zs j = at' nF zs (dg zs j) := by
  have hd := drop_dl _ _ _ (drop_cons zs j h) (by rw [← hc]; exact e)
  refine at_up (n := dl (zs.drop j)) ?_
  rw [← List.drop_drop, hd.2, hd.1]
  rw [drop_cons zs j h, ← hc]
  simp [nI, e, e0]
theorem I_none (h : j < zs.length) (hc : c = zs.getD j 0) (e : isD c = false) : at' nI zs j = -1 :=
  at_none (by
    have e0 : ¬ c = 48 := by intro h0; subst h0; simp [isD] at e
    rw [drop_cons zs j h, ← hc]; simp [nI, e, e0])
theorem I_end (h : ¬ j < zs.length) : at' nI zs j = -1 := at_none (by rw [drop_end zs j h]; rfl)
theorem G_digit (h : j < zs.length) (hc : c = zs.getD j 0) (e : isD c = true) : at' nG zs j = at' nE zs (dg zs j) := by
  have hd := drop_dl _ _ _ (drop_cons zs j h) (by rw [← hc]; exact e)
  refine at_up (n := dl (zs.drop j)) ?_
  rw [← List.drop_drop, hd.2, hd.1]
  rw [drop_cons zs j h, ← hc]
  simp [nG, e]
theorem G_none (h : j < zs.length) (hc : c = zs.getD j 0) (e : isD c = false) : at' nG zs j = -1 :=
  at_none (by rw [drop_cons zs j h, ← hc]; simp [nG, e])
theorem G_end (h : ¬ j < zs.length) : at' nG zs j = -1 := at_none (by rw [drop_end zs j h]; rfl)
theorem F_dot (h : j < zs.length) (hc : c = zs.getD j 0) (e : c = 46) : at' nF zs j = at' nG zs (j + 1) :=
  at_up (by rw [drop_cons zs j h, ← hc]; simp [nF, e])
theorem F_other (h : j < zs.length) (hc : c = zs.getD j 0) (e : ¬ c = 46) : at' nF zs j = at' nE zs j :=
  at_same (by rw [drop_cons zs j h, ← hc]; simp [nF, e])
theorem F_end (h : ¬ j < zs.length) : at' nF zs j = at' nE zs j := at_same (by rw [drop_end zs j h]; rfl)
theorem E_e (h : j < zs.length) (hc : c = zs.getD j 0) (e : c = 101 ∨ c = 69) : at' nE zs j = at' nS zs (j + 1) :=
  at_up (by rw [drop_cons zs j h, ← hc]; simp [nE, e])
theorem E_other (h : j < zs.length) (hc : c = zs.getD j 0) (e1 : ¬ c = 101) (e2 : ¬ c = 69) : at' nE zs j = ((j : Nat) : Int) :=
  at_some (k := 0) (by rw [drop_cons zs j h, ← hc]; simp [nE, e1, e2])
theorem E_end (h : ¬ j < zs.length) : at' nE zs j = ((j : Nat) : Int) := at_some (k := 0) (by rw [drop_end zs j h]; rfl)
theorem S_sign (h : j < zs.length) (hc : c = zs.getD j 0) (e : c = 43 ∨ c = 45) : at' nS zs j = at' nX zs (j + 1) :=
  at_up (by rw [drop_cons zs j h, ← hc]; simp [nS, e])
theorem S_other (h : j < zs.length) (hc : c = zs.getD j 0) (e1 : ¬ c = 43) (e2 : ¬ c = 45) : at' nS zs j = at' nX zs j :=
  at_same (by rw [drop_cons zs j h, ← hc]; simp [nS, e1, e2])
theorem S_end (h : ¬ j < zs.length) : at' nS zs j = at' nX zs j := at_same (by rw [drop_end zs j h]; rfl)
theorem X_digit (h : j < zs.length) (hc : c = zs.getD j 0) (e : isD c = true) : at' nX zs j = ((dg zs j : Nat) : Int) := by
  refine at_some (k := dl (zs.drop j)) ?_
  rw [drop_cons zs j h, ← hc]
  simp [nX, dl, e]
theorem X_none (h : j < zs.length) (hc : c = zs.getD j 0) (e : isD c = false) : at' nX zs j = -1 :=
  at_none (by rw [drop_cons zs j h, ← hc]; simp [nX, e])
theorem X_end (h : ¬ j < zs.length) : at' nX zs j = -1 := at_none (by rw [drop_end zs j h]; rfl)

/-! the automaton's -/
theorem A_step {st : Int} (h : j < zs.length) (hc : c = zs.getD j 0) (e : ¬ stp st c = -1) : at' (aut st) zs j = at' (aut (stp st c)) zs (j + 1) :=
  at_up (by rw [drop_cons zs j h, ← hc]; simp [aut, e])
theorem A_stop {st : Int} (h : j < zs.length) (hc : c = zs.getD j 0) (e : stp st c = -1) : at' (aut st) zs j = if accB st = true then ((j : Nat) : Int) else -1 := by
  unfold at'
  rw [drop_cons zs j h, ← hc]
  simp only [aut, e]
  cases accB st <;> simp
theorem A_end {st : Int} (h : ¬ j < zs.length) : at' (aut st) zs j = if accB st = true then ((j : Nat) : Int) else -1 := by
  unfold at'
  rw [drop_end zs j h]
  simp only [aut]
  cases accB st <;> simp
end
theorem at_aut (zs : List Int) (j : Nat) : at' (aut 0) zs j = at' nN zs j := at_same (aut0 _)
#print axioms at_aut
end Go.Proofs.Qxb6600068a.Plain
