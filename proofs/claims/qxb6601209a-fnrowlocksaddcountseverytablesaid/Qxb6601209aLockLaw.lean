/-
  THE WALK OF 'FnRowLocksAddCountsEveryTable': every input.
-/
import Derived.Test.Qxb6601209aLock
import Derived.Test.Qxb6601209aLockZero
namespace Go.Proofs.Qxb6601209a.fnRowLocksAddCountsEveryTable
open Go.RowKit Go.Proofs.Qxb6601209a.CountWalk
set_option linter.unusedVariables false

/-- What the walk is told of a slice of strings that came in. -/
def IsStrs (w : World) (a : Option Addr) (len cap : Nat) (ss : List ByteArray) : Prop :=
  (a = none ∧ len = 0 ∧ cap = 0 ∧ ss = []) ∨
  ∃ x, a = some x ∧ len ≤ cap ∧ cap ≤ maxLen ∧ ss.length = cap ∧ (∀ i, i < ss.length → w.cell? (x.add i) = some (.string (ss.getD i ByteArray.empty))) ∧ ∀ s ∈ ss, s.size ≤ maxLen

theorem addP (b off i : Nat) : (⟨b, off, none⟩ : Addr).add i = ⟨b, off + i, none⟩ := by
  unfold Addr.add
  split <;> simp_all
theorem lt_of_cell {w : World} {a : Addr} {v : Value} (h : w.cell? a = some v) : a.block < w.heap.size := by
  simp only [World.cell?] at h
  split at h
  · next he => exact lt_of_block he
  · cases h

set_option maxRecDepth 100000 in
set_option maxHeartbeats 1000000 in
theorem far (b off len cap : Nat) (ss : List ByteArray) (p : ByteArray) (w : World) (hS : Strs w b off len ss) (hl : len ≤ 9223372036854775807) (hp : p.size ≤ 9223372036854775807) (h : 65536 < len ∨ 1048576 < p.size ∨ 1048576 < p.size + 16 * len) :
    Calls Try.prog 5 #[.slice (some ⟨b, off, none⟩) len cap, .string p] w fun e w' => e = .returned (.bool true) ∧ Below w.heap.size w w' := by
  have HS : Hid (Strs w b off len ss) := hS
  clear hS
  by_cases h1 : 65536 < len
  · clear h
    go_enter Try.func5, Try.ntmps5
    go_wp2_with fail
    refine (bytes_some b off len cap ss p _ HS.out hl).mono ?_
    rintro e w ⟨⟨β, rfl⟩, rfl⟩
    cases β <;> (go_wp2; go_ret; exact ⟨rfl, Below.refl _ _⟩)
  · by_cases h2 : 1048576 < p.size
    · clear h
      go_enter Try.func5, Try.ntmps5
      go_wp2_with fail
      refine (bytes_some b off len cap ss p _ HS.out hl).mono ?_
      rintro e w ⟨⟨β, rfl⟩, rfl⟩
      cases β <;> (go_wp2; go_ret; exact ⟨rfl, Below.refl _ _⟩)
    · have h3 : 1048576 < p.size + 16 * len := by omega
      clear h
      go_enter Try.func5, Try.ntmps5
      go_wp2_with fail
      refine (bytes_some b off len cap ss p _ HS.out hl).mono ?_
      rintro e w ⟨⟨β, rfl⟩, rfl⟩
      cases β <;> (go_wp2; go_ret; exact ⟨rfl, Below.refl _ _⟩)

set_option maxRecDepth 100000 in
theorem far_zero (a : Option Addr) (cap : Nat) (p : ByteArray) (w : World) (hp : p.size ≤ 9223372036854775807) (h : 1048576 < p.size) :
    Calls Try.prog 5 #[.slice a 0 cap, .string p] w fun e w' => e = .returned (.bool true) ∧ Below w.heap.size w w' := by
  go_enter Try.func5, Try.ntmps5
  go_wp2_with fail
  refine (bytes_none a cap p _).mono ?_
  rintro e w ⟨⟨β, rfl⟩, rfl⟩
  cases β <;> (go_wp2; go_ret; exact ⟨rfl, Below.refl _ _⟩)

theorem walk (a0 : Option Addr) (len cap : Nat) (ss : List ByteArray) (p : ByteArray) (w : World) (w0 : IsStrs w a0 len cap ss) (w1 : p.size ≤ maxLen) :
    Calls Try.prog 5 #[.slice a0 len cap, .string p] w fun e w' => e = .returned (.bool true) ∧ Below w.heap.size w w' := by
  have hp9 : p.size ≤ 9223372036854775807 := by unfold maxLen at w1; exact w1
  by_cases h0 : len = 0
  · subst h0
    by_cases hbig : 1048576 < p.size
    · exact far_zero a0 cap p w hp9 hbig
    · cases a0 with
      | none => exact zero_nil cap p w (by omega)
      | some x => exact zero_some x cap p w (by omega)
  · rcases w0 with ⟨_, h1, _, _⟩ | ⟨x, rfl, hlc, hm, hz, hc, hsz⟩
    · omega
    have hm9 : cap ≤ 9223372036854775807 := by unfold maxLen at hm; exact hm
    obtain ⟨b, off, spot⟩ := x
    have hspot : spot = none := by simpa [Addr.add] using World.cell?_spot (hc 0 (by omega))
    subst hspot
    have hb : b < w.heap.size := by
      have := lt_of_cell (hc 0 (by omega))
      rw [addP] at this
      exact this
    have hS : Strs w b off len (ss.take len) := by
      refine ⟨by simp; omega, fun j hj => ?_⟩
      have := hc j (by omega)
      rw [addP] at this
      rw [this]
      simp [List.getD, hj]
    by_cases hfar : 65536 < len ∨ 1048576 < p.size ∨ 1048576 < p.size + 16 * len
    · exact far b off len cap (ss.take len) p w hS (by omega) hp9 hfar
    · refine deep b off len cap (ss.take len) p w hS hb (by omega) (by omega) (by omega) (by omega) (fun j => ?_)
      by_cases hj : j < (ss.take len).length
      · have e : (ss.take len).getD j ByteArray.empty = (ss.take len)[j] := by simp only [List.getD, List.getElem?_eq_getElem hj, Option.getD_some]
        rw [e]
        exact hsz _ (List.mem_of_mem_take (List.getElem_mem hj))
      · have e : (ss.take len).getD j ByteArray.empty = ByteArray.empty := by simp only [List.getD, List.getElem?_eq_none (Nat.le_of_not_lt hj), Option.getD_none]
        rw [e]
        exact Nat.zero_le _
#print axioms walk
end Go.Proofs.Qxb6601209a.fnRowLocksAddCountsEveryTable
