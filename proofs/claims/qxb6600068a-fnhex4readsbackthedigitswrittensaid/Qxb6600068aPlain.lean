/-
  THE PLAIN LAWS OF NUMBERS: no Go in sight. A JSON number read off the head of a list of bytes (as integers), and the automaton for the same grammar.
-/
namespace Go.Proofs.Qxb6600068a.Plain

def isD (c : Int) : Bool := decide (48 ≤ c ∧ c ≤ 57)
/-- How many digits the list begins with. -/
def dl : List Int → Nat
  | [] => 0
  | c :: r => if isD c = true then dl r + 1 else 0
def up (n : Nat) : Option Nat → Option Nat
  | none => none
  | some k => some (k + n)
def nX : List Int → Option Nat
  | [] => none
  | c :: r => if isD c = true then some (dl r + 1) else none
def nS : List Int → Option Nat
  | [] => none
  | c :: r => if c = 43 ∨ c = 45 then up 1 (nX r) else nX (c :: r)
def nE : List Int → Option Nat
  | [] => some 0
  | c :: r => if c = 101 ∨ c = 69 then up 1 (nS r) else some 0
def nG : List Int → Option Nat
  | [] => none
  | c :: r => if isD c = true then up (dl r + 1) (nE (r.drop (dl r))) else none
def nF : List Int → Option Nat
  | [] => some 0
  | c :: r => if c = 46 then up 1 (nG r) else nE (c :: r)
def nI : List Int → Option Nat
  | [] => none
  | c :: r => if c = 48 then up 1 (nF r) else if isD c = true then up (dl r + 1) (nF (r.drop (dl r))) else none
/-- The number that the list begins with: how many bytes it takes. -/
def nN : List Int → Option Nat
  | [] => none
  | c :: r => if c = 45 then up 1 (nI r) else nI (c :: r)

/-- The answer at an index: -1, or the index behind. -/
def at' (f : List Int → Option Nat) (zs : List Int) (j : Nat) : Int :=
  match f (zs.drop j) with
  | none => -1
  | some k => ((j + k : Nat) : Int)

/-! ### The automaton -/
def stp (st c : Int) : Int :=
  if st = 0 then (if c = 45 then 1 else if c = 48 then 2 else if isD c = true then 3 else -1)
  else if st = 1 then (if c = 48 then 2 else if isD c = true then 3 else -1)
  else if st = 2 then (if c = 46 then 4 else if c = 101 ∨ c = 69 then 6 else -1)
  else if st = 3 then (if isD c = true then 3 else if c = 46 then 4 else if c = 101 ∨ c = 69 then 6 else -1)
  else if st = 4 then (if isD c = true then 5 else -1)
  else if st = 5 then (if isD c = true then 5 else if c = 101 ∨ c = 69 then 6 else -1)
  else if st = 6 then (if c = 43 ∨ c = 45 then 7 else if isD c = true then 8 else -1)
  else if st = 7 ∨ st = 8 then (if isD c = true then 8 else -1)
  else -1
def accB (st : Int) : Bool := decide (st = 2 ∨ st = 3 ∨ st = 5 ∨ st = 8)
def aut : Int → List Int → Option Nat
  | st, [] => if accB st = true then some 0 else none
  | st, c :: r => if stp st c = -1 then (if accB st = true then some 0 else none) else up 1 (aut (stp st c) r)

theorem up0 (o : Option Nat) : up 0 o = o := by cases o <;> rfl
theorem map2 (o : Option Nat) (a b : Nat) : up b (up a o) = up (a + b) o := by cases o <;> simp [up]; omega

theorem aut8 (l : List Int) : aut 8 l = some (dl l) := by
  induction l with
  | nil => rfl
  | cons c r ih =>
    by_cases h : isD c = true
    · simp [aut, stp, dl, h, ih, up]
    · simp [aut, stp, dl, h, accB]
theorem aut7 (l : List Int) : aut 7 l = nX l := by
  cases l with
  | nil => rfl
  | cons c r =>
    by_cases h : isD c = true
    · simp [aut, stp, nX, h, aut8, up]
    · simp [aut, stp, nX, h, accB]
theorem nX_D {c : Int} (h : isD c = true) (r : List Int) : nX (c :: r) = some (dl r + 1) := by simp [nX, h]
theorem aut6 (l : List Int) : aut 6 l = nS l := by
  cases l with
  | nil => rfl
  | cons c r =>
    by_cases h1 : c = 43 ∨ c = 45
    · simp [aut, stp, nS, h1, aut7]
    · by_cases h : isD c = true
      · simp [aut, stp, nS, nX, h1, h, aut8, up]
      · simp [aut, stp, nS, nX, h1, h, accB]
theorem notE {c : Int} (h : isD c = true) : ¬ (c = 101 ∨ c = 69) := by simp [isD] at h; omega
theorem notDot {c : Int} (h : isD c = true) : ¬ c = 46 := by simp [isD] at h; omega
theorem notMinus {c : Int} (h : isD c = true) : ¬ c = 45 := by simp [isD] at h; omega
theorem notDotE {c : Int} (h : c = 101 ∨ c = 69) : ¬ c = 46 := by omega
theorem aut5 (l : List Int) : aut 5 l = up (dl l) (nE (l.drop (dl l))) := by
  induction l with
  | nil => rfl
  | cons c r ih =>
    by_cases h : isD c = true
    · simp only [aut, stp, dl, h]
      simp [ih, map2]
    · simp only [dl, h]
      by_cases h1 : c = 101 ∨ c = 69
      · simp [aut, stp, h, h1, nE, aut6, up0]
      · simp [aut, stp, h, h1, nE, accB, up]
theorem aut4 (l : List Int) : aut 4 l = nG l := by
  cases l with
  | nil => rfl
  | cons c r =>
    by_cases h : isD c = true
    · simp [aut, stp, nG, h, aut5, map2]
    · simp [aut, stp, nG, h, accB]
theorem aut2 (l : List Int) : aut 2 l = nF l := by
  cases l with
  | nil => rfl
  | cons c r =>
    by_cases h : c = 46
    · simp [aut, stp, nF, h, aut4]
    · by_cases h1 : c = 101 ∨ c = 69
      · simp [aut, stp, nF, nE, h, h1, aut6]
      · simp [aut, stp, nF, nE, h, h1, accB]
theorem aut3 (l : List Int) : aut 3 l = up (dl l) (nF (l.drop (dl l))) := by
  induction l with
  | nil => rfl
  | cons c r ih =>
    by_cases h : isD c = true
    · simp only [aut, stp, dl, h]
      simp [ih, map2]
    · simp only [dl, h]
      by_cases h0 : c = 46
      · subst h0
        simp [aut, stp, h, nF, aut4, up0]
      · by_cases h1 : c = 101 ∨ c = 69
        · simp [aut, stp, h, h0, h1, nF, nE, aut6, up0]
        · simp [aut, stp, h, h0, h1, nF, nE, accB, up]
theorem aut1 (l : List Int) : aut 1 l = nI l := by
  cases l with
  | nil => rfl
  | cons c r =>
    by_cases h0 : c = 48
    · simp [aut, stp, nI, h0, aut2]
    · by_cases h : isD c = true
      · simp [aut, stp, nI, h0, h, aut3, map2]
      · simp [aut, stp, nI, h0, h, accB]
/-- THE AUTOMATON READS WHAT THE SCANNER READS. -/
theorem aut0 (l : List Int) : aut 0 l = nN l := by
  cases l with
  | nil => rfl
  | cons c r =>
    by_cases hm : c = 45
    · simp [aut, stp, nN, hm, aut1]
    · by_cases h0 : c = 48
      · simp [aut, stp, nN, nI, h0, aut2]
      · by_cases h : isD c = true
        · simp [aut, stp, nN, nI, hm, h0, h, aut3, map2]
        · simp [aut, stp, nN, nI, hm, h0, h, accB]

theorem stp_comma (st : Int) : stp st 44 = -1 := by
  unfold stp
  simp [isD]
  repeat' split
  all_goals first | rfl | omega
/-- WHAT WAS READ IS READ AGAIN: alone, and with a comma behind it. -/
theorem aut_take (t : List Int) (ht : t = [] ∨ ∃ r, t = 44 :: r) : ∀ (l : List Int) (st : Int) (k : Nat), aut st l = some k → k ≤ l.length ∧ aut st (l.take k ++ t) = some k := by
  have base : ∀ st, accB st = true → aut st t = some 0 := by
    intro st h
    rcases ht with rfl | ⟨r, rfl⟩
    · simp [aut, h]
    · simp [aut, stp_comma, h]
  intro l
  induction l with
  | nil =>
    intro st k h
    simp only [aut] at h
    split at h
    · next hacc => obtain rfl : 0 = k := by simpa using h
                   exact ⟨Nat.le_refl _, by simpa using base st hacc⟩
    · cases h
  | cons c r ih =>
    intro st k h
    simp only [aut] at h
    split at h
    · split at h
      · next hacc => obtain rfl : 0 = k := by simpa using h
                     exact ⟨Nat.zero_le _, by simpa using base st hacc⟩
      · cases h
    · next hs =>
      obtain ⟨k', hk', rfl⟩ : ∃ k', aut (stp st c) r = some k' ∧ k' + 1 = k := by
        cases hq : aut (stp st c) r with
        | none => rw [hq] at h; cases h
        | some q => rw [hq] at h; exact ⟨q, rfl, by simpa [up] using h⟩
      obtain ⟨h1, h2⟩ := ih _ _ hk'
      refine ⟨by simp; omega, ?_⟩
      simp [aut, hs, h2, up]
theorem nN_pos (l : List Int) (k : Nat) (h : nN l = some k) : 0 < k := by
  cases l with
  | nil => cases h
  | cons c r =>
    rw [← aut0] at h
    simp only [aut] at h
    split at h
    · simp [accB] at h
    · cases hq : aut (stp 0 c) r with
      | none => rw [hq] at h; cases h
      | some q => rw [hq] at h; simp [up] at h; omega
theorem nN_take (l : List Int) (k : Nat) (h : nN l = some k) : 0 < k ∧ k ≤ l.length ∧ nN (l.take k) = some k ∧ nN (l.take k ++ [44]) = some k := by
  have h0 : aut 0 l = some k := by rw [aut0]; exact h
  refine ⟨nN_pos l k h, (aut_take [] (.inl rfl) l 0 k h0).1, ?_, ?_⟩
  · have := (aut_take [] (.inl rfl) l 0 k h0).2
    rw [aut0] at this
    simpa using this
  · have := (aut_take [44] (.inr ⟨_, rfl⟩) l 0 k h0).2
    rw [aut0] at this
    exact this

#print axioms aut0
#print axioms nN_take
end Go.Proofs.Qxb6600068a.Plain
