/-
  THE THIN NAME OF numberAfter.
-/
import Derived.Test.Qxb6600068aClone
namespace Go.Proofs.Qxb6600068a.NumWalk
open Go.RowKit Go.Proofs.Qxb6600068a.Plain

theorem zz_any (b off len cap i0 : Nat) (zs : List Int) (w : World) (hB : Bytes w b off len zs) (hi : i0 < len) :
    Calls Try.prog 13 #[.slice (some ⟨b, off, none⟩) len cap, .int .i64 i0] w fun e w' => e = .returned (.int .i64 (at' nN zs i0)) ∧ w' = w := by
  have HB : Hid (Bytes w b off len zs) := hB
  clear hB
  go_enter Try.func13, Try.ntmps13
  go_wp2_with (go_at_call 28; refine (number_any _ _ _ _ _ zs _ HB.out hi).mono ?_; rintro e w' ⟨rfl, rfl⟩)
  go_ret
  exact ⟨rfl, rfl⟩

/-- What came in, cut to its length. -/
theorem take_len {zs : List Int} {len cap : Nat} (hz : zs.length = cap) (hl : len ≤ cap) : (zs.take len).length = len := by simp; omega
theorem take_cell {w : World} {x : Addr} {zs : List Int} {len cap : Nat} (hz : zs.length = cap) (hl : len ≤ cap) (hc : ∀ i, i < zs.length → w.cell? (x.add i) = some (.int .u8 (zs.getD i 0))) :
    ∀ i, i < len → w.cell? (x.add i) = some (.int .u8 ((zs.take len).getD i 0)) := by
  intro i hi
  rw [hc i (by omega)]
  simp [List.getD, hi]
theorem Own.bytesAll {w : World} {g n : Nat} {ys : List Int} (h : Own w g ys) (hn : ys.length = n) (hb : n ≤ 4194304) : Bytes w g 0 n ys := by
  subst hn; exact h.all hb
#print axioms zz_any
end Go.Proofs.Qxb6600068a.NumWalk
