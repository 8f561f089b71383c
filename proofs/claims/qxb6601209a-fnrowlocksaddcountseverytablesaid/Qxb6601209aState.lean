/-
  WHAT THE rowLocks AND THE MAP OF OCCURRENCES HOLD BEHIND k ROUNDS; add's five cases in one contract.
-/
import Derived.Test.Qxb6601209aOwnS
import Derived.Laws.Strings
namespace Go.Proofs.Qxb6601209a.CountWalk
open Go.RowKit Go.Maps Go.WideMaps

def key (ss : List ByteArray) (k : Nat) : List UInt8 := (ss.getD k ByteArray.empty).data.toList
/-- How often each name stands among the first k. -/
def cnt (ss : List ByteArray) : Nat → List UInt8 → Nat
  | 0 => fun _ => 0
  | k + 1 => upd (cnt ss k) (key ss k)
/-- .. the first name left out. -/
def cntM (ss : List ByteArray) : Nat → List UInt8 → Nat
  | 0 => fun _ => 0
  | k + 1 => if key ss k = key ss 0 then cntM ss k else upd (cntM ss k) (key ss k)
def num (ss : List ByteArray) : Nat → Nat
  | 0 => 0
  | k + 1 => szN (cnt ss k) (key ss k) (num ss k)
def numM (ss : List ByteArray) : Nat → Nat
  | 0 => 0
  | k + 1 => if key ss k = key ss 0 then numM ss k else szN (cntM ss k) (key ss k) (numM ss k)
def tbl (ss : List ByteArray) (k : Nat) : ByteArray := if k = 0 then ByteArray.empty else ss.getD 0 ByteArray.empty

theorem cntM_eq (ss : List ByteArray) (k : Nat) (l : List UInt8) : cntM ss k l = if l = key ss 0 then 0 else cnt ss k l := by
  induction k with
  | zero => simp [cntM, cnt]
  | succ k ih =>
    by_cases h : key ss k = key ss 0
    · simp only [cntM, cnt, h, if_true, upd, ih]
      by_cases e : l = key ss 0
      · simp [e]
      · simp [e]
    · simp only [cntM, cnt, h, if_false, upd, ih]
      by_cases e : l = key ss 0
      · subst e
        simp [Ne.symm h]
      · simp [e]
theorem cnt_le (ss : List ByteArray) (k : Nat) (l : List UInt8) : cnt ss k l ≤ k := by
  induction k with
  | zero => simp [cnt]
  | succ k ih => simp only [cnt, upd]; split <;> omega
theorem cnt_first (ss : List ByteArray) (k : Nat) (hk : 1 ≤ k) : 1 ≤ cnt ss k (key ss 0) := by
  induction k with
  | zero => omega
  | succ k ih =>
    simp only [cnt, upd]
    split
    · omega
    · next h =>
      by_cases h0 : k = 0
      · subst h0; exact absurd rfl h
      · exact ih (by omega)
theorem num_eq (ss : List ByteArray) (k : Nat) (hk : 1 ≤ k) : num ss k = numM ss k + 1 := by
  induction k with
  | zero => omega
  | succ k ih =>
    by_cases h0 : k = 0
    · subst h0; simp [num, numM, szN, cnt]
    · have ih' := ih (by omega)
      have hf := cnt_first ss k (by omega)
      by_cases h : key ss k = key ss 0
      · simp only [num, numM, h, if_true]
        rw [szN_hit (by omega)]
        exact ih'
      · simp only [num, numM, h, if_false]
        have e : cntM ss k (key ss k) = cnt ss k (key ss k) := by rw [cntM_eq]; simp [h]
        by_cases hz : 0 < cnt ss k (key ss k)
        · rw [szN_hit hz, szN_hit (by rw [e]; exact hz)]; exact ih'
        · rw [szN_miss (by omega), szN_miss (by rw [e]; omega)]; omega

/-- The map in the field: nil while it holds nothing; else a block behind O. -/
def More (w : World) (O : Nat) (mo : Option Nat) (f : List UInt8 → Nat) (N n : Nat) : Prop :=
  (mo = none ∧ (∀ l, f l = 0) ∧ N = 0) ∨ ∃ M, mo = some M ∧ O < M ∧ Mp w M f N n ∧ 0 < N
/-- The rowLocks behind k rounds. -/
def St (ss : List ByteArray) (w : World) (C O k : Nat) : Prop := ∃ mo, Blk w C k (tbl ss k) (cnt ss k (key ss 0) : Nat) mo ∧ More w O mo (cntM ss k) (numM ss k) k
/-- Up to block O only C has turned. -/
structure Kept (C O : Nat) (w w' : World) : Prop where
  os : w'.os = w.os
  tape : w'.tape = w.tape
  output : w'.output = w.output
  size : w.heap.size ≤ w'.heap.size
  block : ∀ k, k ≤ O → k ≠ C → w'.heap[k]? = w.heap[k]?
theorem Chg.kept {w w' : World} {C O : Nat} {M : Option Nat} (h : Chg w w' C M) (hO : O < w.heap.size) (hM : ∀ m, M = some m → O < m) : Kept C O w w' :=
  ⟨h.os, h.tape, h.output, h.size, fun k hk hC => h.block k (by omega) hC (fun e => by have := hM k e.symm; omega)⟩
theorem St.grown {ss : List ByteArray} {w w' : World} {C O k : Nat} (h : St ss w C O k) (hg : w.grownBy w' (some O)) (hC : C ≠ O) : St ss w' C O k := by
  obtain ⟨mo, hB, hM⟩ := h
  refine ⟨mo, hB.same (hg.block C hB.lt (by simpa using hC)), ?_⟩
  rcases hM with hM | ⟨M, h1, h2, h3, h4⟩
  · exact .inl hM
  · exact .inr ⟨M, h1, h2, h3.same (hg.block M h3.lt (by simp; omega)), h4⟩

theorem toList_eq (s : ByteArray) : s.toList = s.data.toList := ByteArray.toList_eq s
theorem same_iff (s t : ByteArray) : (s.toList == t.toList) = true ↔ s.data.toList = t.data.toList := by
  rw [beq_iff_eq, toList_eq, toList_eq]
theorem diff_iff (s t : ByteArray) : (s.toList == t.toList) = false ↔ s.data.toList ≠ t.data.toList := by
  rw [beq_eq_false_iff_ne, toList_eq, toList_eq]

theorem add_rel (ss : List ByteArray) (C O k : Nat) (w : World) (hSt : St ss w C O k) (hO : O < w.heap.size) (hCO : C < O) (hk : k ≤ 65536) (hne : ∀ j, j ≤ k → ((ss.getD j ByteArray.empty).toList == []) = false) (hz : ∀ j, (ss.getD j ByteArray.empty).size ≤ maxLen) :
    Calls Try.prog 12 #[.pointer (some ⟨C, 0, none⟩), .string (ss.getD k ByteArray.empty)] w fun e w' => e = .returned (.tuple #[]) ∧ (St ss w' C O (k + 1) ∧ Kept C O w w') := by
  refine zz_add _ _ _ _ ?_
  show Calls _ _ _ _ _
  obtain ⟨mo, hB, hM⟩ := hSt
  have hcl := cnt_le ss k
  by_cases h0 : k = 0
  · subst h0
    rcases hM with ⟨rfl, hf, hN⟩ | ⟨M, _, _, _, h4⟩
    · refine (add_first C 0 0 _ w hB (hne 0 (Nat.le_refl _)) (hz 0) (by omega) (by omega)).mono ?_
      rintro e w' ⟨he, hB', hc⟩
      refine ⟨he, ⟨none, ?_, .inl ⟨rfl, ?_, ?_⟩⟩, hc.kept hO (fun m hm => by cases hm)⟩
      · have e1 : cnt ss 1 (key ss 0) = 1 := by simp [cnt, upd]
        have e2 : tbl ss (0 + 1) = ss.getD 0 ByteArray.empty := by simp [tbl]
        rw [e1, e2]
        exact hB'
      · intro l; simp [cntM]
      · simp [numM]
    · simp [numM] at h4
  · have e2 : tbl ss k = ss.getD 0 ByteArray.empty := by simp [tbl, h0]
    have e3 : tbl ss (k + 1) = ss.getD 0 ByteArray.empty := by simp [tbl]
    have e4 : ((k + 1 : Nat) : Int) = (k : Int) + 1 := by omega
    rw [e2] at hB
    by_cases hs : key ss k = key ss 0
    · have hs' : ((ss.getD k ByteArray.empty).toList == (ss.getD 0 ByteArray.empty).toList) = true := (same_iff _ _).2 hs
      refine (add_same C _ _ _ _ mo w hB hs' (by omega) (by omega) (by omega) (by have := hcl (key ss 0); omega)).mono ?_
      rintro e w' ⟨he, hB', hc⟩
      have e5 : ((cnt ss (k + 1) (key ss 0) : Nat) : Int) = ((cnt ss k (key ss 0) : Nat) : Int) + 1 := by simp [cnt, upd, hs]
      refine ⟨he, ⟨mo, by rw [e3, e4, e5]; exact hB', ?_⟩, hc.kept hO (fun m hm => by cases hm)⟩
      have e6 : cntM ss (k + 1) = cntM ss k := by simp only [cntM, hs, if_true]
      have e7 : numM ss (k + 1) = numM ss k := by simp only [numM, hs, if_true]
      rw [e6, e7]
      rcases hM with hM | ⟨M, h1, h2, h3, h4⟩
      · exact .inl hM
      · refine .inr ⟨M, h1, h2, (h3.mono (Nat.le_succ _)).same (hc.block M h3.lt (by omega) (by simp)), h4⟩
    · have hs' : ((ss.getD k ByteArray.empty).toList == (ss.getD 0 ByteArray.empty).toList) = false := (diff_iff _ _).2 hs
      have e5 : ((cnt ss (k + 1) (key ss 0) : Nat) : Int) = ((cnt ss k (key ss 0) : Nat) : Int) := by simp [cnt, upd, Ne.symm hs]
      have e6 : cntM ss (k + 1) = upd (cntM ss k) (key ss k) := by simp only [cntM, hs, if_false]
      have e7 : numM ss (k + 1) = szN (cntM ss k) (key ss k) (numM ss k) := by simp only [numM, hs, if_false]
      have hle : cntM ss k (key ss k) ≤ k := by rw [cntM_eq]; split; exact Nat.zero_le _; exact hcl _
      rcases hM with ⟨rfl, hf, hN⟩ | ⟨M, rfl, h2, h3, h4⟩
      · refine (add_new C _ _ _ _ w hB hs' (hz k) (hne 0 (Nat.zero_le _)) (by omega) (by omega)).mono ?_
        rintro e w' ⟨he, hB', hM', hc⟩
        refine ⟨he, ⟨some w.heap.size, by rw [e3, e4, e5]; exact hB', .inr ⟨_, rfl, hO, ?_, ?_⟩⟩, hc.kept hO (fun m hm => by cases hm)⟩
        · have e8 : cntM ss k = fun _ => 0 := funext hf
          rw [e6, e7, szN_miss (hf _), hN, e8]
          exact hM'.mono (by omega)
        · rw [e7, szN_miss (hf _)]; omega
      · by_cases hp : 0 < cntM ss k (key ss k)
        · refine (add_hit C _ _ _ _ M _ _ k w hB h3 (by omega) (by omega) hs' (hz k) hp (by show cntM ss k (key ss k) ≤ _; omega) (by omega) (by omega)).mono ?_
          rintro e w' ⟨he, hB', hM', hc⟩
          refine ⟨he, ⟨some M, by rw [e3, e4, e5]; exact hB', .inr ⟨_, rfl, h2, ?_, ?_⟩⟩, hc.kept hO (fun m hm => by cases hm; exact h2)⟩
          · rw [e6, e7, szN_hit hp]; exact hM'
          · rw [e7, szN_hit hp]; exact h4
        · have hp0 : cntM ss k (key ss k) = 0 := by omega
          refine (add_more C _ _ _ _ M _ _ k w hB h3 (by omega) (by omega) hs' (hz k) (hne 0 (Nat.zero_le _)) hp0 (by omega) (by omega)).mono ?_
          rintro e w' ⟨he, hB', hM', hc⟩
          refine ⟨he, ⟨some M, by rw [e3, e4, e5]; exact hB', .inr ⟨_, rfl, h2, ?_, ?_⟩⟩, hc.kept hO (fun m hm => by cases hm; exact h2)⟩
          · rw [e6, e7, szN_miss hp0]; exact hM'
          · rw [e7, szN_miss hp0]; omega
#print axioms add_rel
end Go.Proofs.Qxb6601209a.CountWalk
