/-
  THE SMALL CALLEES: jrb1Clone, the bounds on lengths, the thin names.
-/
import Derived.Test.Qxb6600068aOwn
import Derived.Test.Qxb6600068aWalkB
import Derived.WalkSpells
namespace Go.Proofs.Qxb6600068a.NumWalk
open Go.RowKit Go.Proofs.Qxb6600068a.Plain

/-- What the shell tells of a slice of bytes that came in. -/
def Came (w : World) (a : Option Addr) (len cap : Nat) (zs : List Int) : Prop :=
  (a = none ∧ len = 0 ∧ cap = 0 ∧ zs = []) ∨
  ∃ x, a = some x ∧ len ≤ cap ∧ cap ≤ maxLen ∧ zs.length = cap ∧ (∀ i, i < zs.length → w.cell? (x.add i) = some (.int .u8 (zs.getD i 0))) ∧ ∀ n ∈ zs, (Lit.int .u8 n).wf = true

theorem clone_nil (w : World) : Calls Try.prog 12 #[.slice none 0 0] w fun e w' => e = .returned (.slice none 0 0) ∧ w' = w := by
  have q22 : ∀ (w : World) (a : Option Addr) (n c n' c' : Nat), (binOp .eql 22 (.slice a n c) (.slice none n' c')).run Try.prog w = .ok (.bool a.isNone) w := fun w a n c n' c' => Lib.run_eql_slice_nil w 22 5 a n c n' c' Try.underlying22
  go_enter Try.func12, Try.ntmps12
  go_wp2
  go_ret
  exact ⟨rfl, rfl⟩

theorem splice_all (zs ys : List Int) (n : Nat) (h : ys.length = n) (hz : zs.length = n) : splice zs 0 ys = ys := by
  simp [splice]
  omega

set_option maxHeartbeats 400000 in
theorem clone_some (x : Addr) (len cap : Nat) (ys : List Int) (w : World) (hl : len ≤ 4194304) (hy : ys.length = len) (hcell : ∀ i, i < len → w.cell? (x.add i) = some (.int .u8 (ys.getD i 0))) :
    Calls Try.prog 12 #[.slice (some x) len cap] w fun e w' => e = .returned (.slice (some ⟨w.heap.size, 0, none⟩) len len) ∧ Own w' w.heap.size ys ∧ Below w.heap.size w w' := by
  have HC : Hid (∀ i, i < len → w.cell? (x.add i) = some (.int .u8 (ys.getD i 0))) := hcell
  have HY : Hid (ys.length = len) := hy
  clear hcell hy
  have q22 : ∀ (w : World) (a : Option Addr) (n c n' c' : Nat), (binOp .eql 22 (.slice a n c) (.slice none n' c')).run Try.prog w = .ok (.bool a.isNone) w := fun w a n c n' c' => Lib.run_eql_slice_nil w 22 5 a n c n' c' Try.underlying22
  go_enter Try.func12, Try.ntmps12
  go_wp2_with (first | (at_make; refine wpList_make_bytes _ rfl _ _ rfl _ _ _ _ len rfl rfl rfl rfl hl ?_; intro w1 hO hb) | ((with_reducible show wpList _ _ _ (Oper.mk _ (Op.call (Call.mk (Callee.builtin Builtin.copy) _ _)) _ _ _ _ :: _) _ _); refine wpList_copy_bytes _ rfl _ _ rfl _ _ _ _ _ _ rfl rfl w.heap.size 0 _ hO ys ?c1 ?c2 ?c3 ?_))
  case c1 => exact HY.out.trans (Nat.min_self len).symm
  case c2 =>
    intro _ j hj
    have hc := HC.out j (by rw [← HY.out]; exact hj)
    have e := (hb.cell (lt_of_cell hc)).trans hc
    simpa [List.getD] using e
  case c3 => simp [HY.out]
  intro w2 hO2 hb2 _
  have hO3 : Own w2 w.heap.size ys := by
    rw [splice_all _ _ len HY.out (by simp)] at hO2
    exact hO2
  clear hO hO2
  go_wp2
  go_ret
  exact ⟨rfl, hO3, hb.trans hb2⟩
#print axioms clone_some
end Go.Proofs.Qxb6600068a.NumWalk
