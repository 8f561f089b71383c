/-
  SLASHES, COUNTED: no Go in sight.
-/
namespace Go.Proofs.Qxb6601209a.Plain

/-- How many slashes the list holds. -/
def sc : List Int → Nat
  | [] => 0
  | c :: r => (if c = 47 then 1 else 0) + sc r
theorem sc_append (l m : List Int) : sc (l ++ m) = sc l + sc m := by
  induction l with
  | nil => simp [sc]
  | cons c r ih => simp only [List.cons_append, sc, ih]; omega
theorem sc_le (l : List Int) : sc l ≤ l.length := by
  induction l with
  | nil => exact Nat.le_refl _
  | cons c r ih => simp only [sc, List.length_cons]; split <;> omega
/-- The string's bytes as integers. -/
def bl (s : ByteArray) : List Int := s.data.toList.map fun b => (b.toNat : Int)
theorem bl_len (s : ByteArray) : (bl s).length = s.size := by
  unfold bl
  rw [List.length_map]
  rfl
theorem bl_at (s : ByteArray) (k : Nat) (h : k < s.size) : (bl s).take (k + 1) = (bl s).take k ++ [((s[k]'h).toNat : Int)] := by
  rw [List.take_succ_eq_append_getElem (by rw [bl_len]; exact h)]
  simp [bl]; rfl
/-- The slashes among the first k bytes. -/
def scT (s : ByteArray) (k : Nat) : Nat := sc ((bl s).take k)
theorem scT_zero (s : ByteArray) : scT s 0 = 0 := by simp [scT, sc]
theorem scT_hit (s : ByteArray) (k : Nat) (h : k < s.size) (e : ((s[k]'h).toNat : Int) = 47) : scT s (k + 1) = scT s k + 1 := by
  unfold scT; rw [bl_at s k h, sc_append]; simp [sc, e]
theorem scT_miss (s : ByteArray) (k : Nat) (h : k < s.size) (e : ¬ ((s[k]'h).toNat : Int) = 47) : scT s (k + 1) = scT s k := by
  unfold scT; rw [bl_at s k h, sc_append]; simp [sc, e]
theorem scT_le (s : ByteArray) (k : Nat) : scT s k ≤ k := by
  have := sc_le ((bl s).take k)
  have h2 : ((bl s).take k).length ≤ k := List.length_take_le _ _
  unfold scT; omega
theorem scT_mono (s : ByteArray) (k m : Nat) (h : k ≤ m) : scT s k ≤ scT s m := by
  unfold scT
  have : (bl s).take m = (bl s).take k ++ ((bl s).take m).drop k := by
    have := List.take_append_drop k ((bl s).take m)
    rw [List.take_take, Nat.min_eq_left h] at this
    exact this.symm
  rw [this, sc_append]
  omega
theorem bl_extract (s : ByteArray) (p : Nat) : bl (s.extract 0 p) = (bl s).take p := by
  simp [bl]
theorem scT_all (s : ByteArray) (k : Nat) (h : s.size ≤ k) : scT s k = sc (bl s) := by
  unfold scT; rw [List.take_of_length_le (by rw [bl_len]; exact h)]
theorem scT_extract (s : ByteArray) (p : Nat) : sc (bl (s.extract 0 p)) = scT s p := by
  rw [bl_extract]; rfl
#print axioms scT_extract
end Go.Proofs.Qxb6601209a.Plain
