/-
  THE WALK OF 'FnNumberAfterEndsWhereItsTextEnds'.
-/
import Derived.WalkKit
import Derived.Below
import Derived.Test.Qxb6600068aZz2
namespace Go.Proofs.Qxb6600068a.fnNumberAfterEndsWhereItsTextEnds
open Go.RowKit
open Go.Proofs.Qxb6600068a.NumWalk Go.Proofs.Qxb6600068a.Plain
set_option linter.unusedVariables false

def IsRow (k : IntKind) (w : World) (a : Option Addr) (len cap : Nat) (zs : List Int) : Prop :=
  (a = none ∧ len = 0 ∧ cap = 0 ∧ zs = []) ∨
  ∃ x, a = some x ∧ len ≤ cap ∧ cap ≤ maxLen ∧ zs.length = cap ∧ (∀ i, i < zs.length → w.cell? (x.add i) = some (.int k (zs.getD i 0))) ∧ ∀ n ∈ zs, (Lit.int k n).wf = true

theorem bytesTake {w : World} {g n m : Nat} {ys : List Int} (h : Own w g ys) (hn : ys.length = n) (hm : m ≤ n) (hb : m ≤ 4194304) : Bytes w g 0 m (ys.take m) := by
  have := h.bytes 0 m (by omega) hb
  simpa using this
set_option maxHeartbeats 800000 in
theorem deep_none (x : Addr) (len cap n : Nat) (ys : List Int) (w : World) (hn : n < len) (hl : len ≤ 1048576) (HY : Hid (ys.length = len))
    (HC : Hid (∀ i, i < len → w.cell? (x.add i) = some (.int .u8 (ys.getD i 0)))) (h : Hid (nN (ys.drop n) = none)) :
    Calls Try.prog 5 #[.slice (some x) len cap, .int .i64 n] w fun e w' => e = .returned (.bool true) ∧ Below w.heap.size w w' := by
  go_enter Try.func5, Try.ntmps5
  go_wp2_with (first | (go_at_call 12; refine (clone_some x len cap ys _ (by omega) HY.out HC.out).mono ?_; rintro e w1 ⟨rfl, hO, hb⟩) | (go_at_call 13; refine (zz_none _ _ _ _ n ys _ (hO.bytesAll HY.out (by omega)) hn h.out).mono ?_; rintro e w' ⟨rfl, rfl⟩) | (go_at_call 16; go_in))
  go_ret
  exact ⟨rfl, hb⟩

set_option maxHeartbeats 800000 in
theorem deep_some (x : Addr) (len cap n k : Nat) (ys : List Int) (w : World) (hn : n < len) (hl : len ≤ 1048576) (HY : Hid (ys.length = len))
    (HC : Hid (∀ i, i < len → w.cell? (x.add i) = some (.int .u8 (ys.getD i 0)))) (h : Hid (nN (ys.drop n) = some k)) :
    Calls Try.prog 5 #[.slice (some x) len cap, .int .i64 n] w fun e w' => e = .returned (.bool true) ∧ Below w.heap.size w w' := by
  have hk0 : 0 < k := (nN_take _ _ h.out).1
  have hkl : n + k ≤ len := by
    have := (nN_take _ _ h.out).2.1
    rw [List.length_drop, HY.out] at this
    omega
  go_enter Try.func5, Try.ntmps5
  go_wp2_with (first | (go_at_call 12; refine (clone_some x len cap ys _ (by omega) HY.out HC.out).mono ?_; rintro e w1 ⟨rfl, hO, hb⟩) | (go_at_call 16; go_in))
  refine (zz_some _ _ _ _ n k ys _ (hO.bytesAll HY.out (by omega)) hn h.out).mono ?_
  rintro e w' ⟨rfl, rfl⟩
  go_wp2_with fail
  refine (zz_some _ _ _ _ n k (ys.take (n + k)) _ (bytesTake hO HY.out hkl (by omega)) (by omega) (again ys n k h.out)).mono ?_
  rintro e w' ⟨rfl, rfl⟩
  have hlt := hO.lt
  obtain ⟨L, hL1, hL2, hL3⟩ : ∃ L : List Int, Hid (L.length = k) ∧ Hid (nN ((splice (List.replicate (k + 1) 0) 0 L).set k 44) = some k) ∧ Hid (∀ j, j < k → L.getD j 0 = ys.getD (n + j) 0) :=
    ⟨(ys.drop n).take k, (by show _ = _; simp [HY.out]; omega), again_comma ys n k h.out, (fun j hj => by simp [List.getD, hj])⟩
  go_wp2_with (first | (at_make; refine wpList_make_bytes _ rfl _ _ rfl _ _ _ _ (k + 1) rfl rfl (by omega) (by omega) (by omega) ?_; intro w2 hO2 hb2; have hO3 := hO.below hb2 hlt) | ((with_reducible show wpList _ _ _ (Oper.mk _ (Op.call (Call.mk (Callee.builtin Builtin.copy) _ _)) _ _ _ _ :: _) _ _); go_must (refine wpList_copy_bytes _ rfl _ _ rfl _ _ _ _ _ _ rfl rfl w'.heap.size 0 _ hO2 L ?c1 ?c2 ?c3 ?_)))
  case c1 => rw [hL1.out]; simp
  case c2 =>
    intro _ j hj
    have hj' : j < k := by rw [← hL1.out]; exact hj
    rw [hO3.cell (n + j) (by rw [HY.out]; omega), ← hL3.out j hj']
    simp [List.getD]
  case c3 => rw [hL1.out]; simp
  intro w3 hO4 hb3 _
  have hc4 : w3.cell? ⟨w'.heap.size, k, none⟩ = some (.int .u8 ((splice (List.replicate (k + 1) 0) 0 L).getD k 0)) := hO4.cell k (by rw [length_splice _ _ _ (by rw [hL1.out]; simp)]; simp)
  have hf4 : w3.frozen? ⟨w'.heap.size, k, none⟩ = false := hO4.frozen k
  have hlen : Hid (((splice (List.replicate (k + 1) 0) 0 L).set k 44).length = k + 1) := by
    show _ = _
    rw [List.length_set, length_splice _ _ _ (by rw [hL1.out]; simp)]; simp
  have hO5 := hO4.setCell k 44
  generalize (splice (List.replicate (k + 1) 0) 0 L).getD k 0 = z at hc4
  clear hO2 hO3
  go_wp2_with fail
  refine (zz_zero _ _ _ _ k _ _ (hO5.bytesAll hlen.out (by omega)) (by omega) hL2.out).mono ?_
  rintro e wx ⟨rfl, hwx⟩
  subst hwx
  clear hO4 hO5 hc4 hf4
  go_wp2
  go_ret
  exact ⟨ret_bool (show ((k : Int) == (n : Int) + (k : Int) - (n : Int)) = true by rw [beq_iff_eq]; omega), ((hb.trans (hb2.mono hb.size)).trans (hb3.mono hb.size)).setCell hb.size _⟩

theorem walk (a0 : Option Addr) (len0 cap0 : Nat) (z0 : List Int) (a1 : Int) (w : World) (w0 : IsRow .u8 w a0 len0 cap0 z0) (w1 : (Lit.int .i64 a1).wf = true) :
    Calls Try.prog 5 #[.slice a0 len0 cap0, .int .i64 a1] w fun e w' => e = .returned (.bool true) ∧ Below w.heap.size w w' := by
  by_cases hbig : (1048576 : Int) < (len0 : Int)
  · go_enter Try.func5, Try.ntmps5
    go_wp2
    go_ret
    exact ⟨rfl, Below.refl _ _⟩
  by_cases hneg : a1 < 0
  · go_enter Try.func5, Try.ntmps5
    go_wp2
    go_ret
    exact ⟨rfl, Below.refl _ _⟩
  by_cases hge : (len0 : Int) ≤ a1
  · go_enter Try.func5, Try.ntmps5
    go_wp2
    go_ret
    exact ⟨rfl, Below.refl _ _⟩
  obtain ⟨n, rfl⟩ : ∃ n : Nat, a1 = (n : Int) := ⟨a1.toNat, by omega⟩
  have hn : n < len0 := by omega
  have hl0 : len0 ≤ 1048576 := by omega
  rcases w0 with ⟨_, h0, _, _⟩ | ⟨x, rfl, hlc, _, hz, hc, _⟩
  · omega
  cases h : nN ((z0.take len0).drop n) with
  | none => exact deep_none x len0 cap0 n (z0.take len0) w hn hl0 (take_len hz hlc) (take_cell hz hlc hc) h
  | some k => exact deep_some x len0 cap0 n k (z0.take len0) w hn hl0 (take_len hz hlc) (take_cell hz hlc hc) h
#print axioms walk
end Go.Proofs.Qxb6600068a.fnNumberAfterEndsWhereItsTextEnds
