/-
  THE WALK OF 'FnNumberAfterDependsOnlyOnWhatFollows'.
-/
import Derived.WalkKit
import Derived.Below
import Derived.Test.Qxb6600068aZz2
namespace Go.Proofs.Qxb6600068a.fnNumberAfterDependsOnlyOnWhatFollows
open Go.RowKit
open Go.Proofs.Qxb6600068a.NumWalk Go.Proofs.Qxb6600068a.Plain
set_option linter.unusedVariables false

def IsRow (k : IntKind) (w : World) (a : Option Addr) (len cap : Nat) (zs : List Int) : Prop :=
  (a = none ∧ len = 0 ∧ cap = 0 ∧ zs = []) ∨
  ∃ x, a = some x ∧ len ≤ cap ∧ cap ≤ maxLen ∧ zs.length = cap ∧ (∀ i, i < zs.length → w.cell? (x.add i) = some (.int k (zs.getD i 0))) ∧ ∀ n ∈ zs, (Lit.int k n).wf = true

/-- A slice that may be nil, cloned: of the clone only this is known. -/
theorem clone_any (a : Option Addr) (len cap : Nat) (zs : List Int) (w : World) (h : IsRow .u8 w a len cap zs) (hl : len ≤ 4194304) :
    Calls Try.prog 12 #[.slice a len cap] w fun e w' => ∃ a', e = .returned (.slice a' len len) ∧ Below w.heap.size w w' ∧ Hid (0 < len → a' = some ⟨w.heap.size, 0, none⟩ ∧ Own w' w.heap.size (zs.take len)) := by
  rcases h with ⟨rfl, rfl, rfl, rfl⟩ | ⟨x, rfl, hlc, _, hz, hc, _⟩
  · refine (clone_nil w).mono ?_
    rintro e w' ⟨rfl, rfl⟩
    exact ⟨none, rfl, Below.refl _ _, fun h => absurd h (by omega)⟩
  · refine (clone_some x len cap (zs.take len) w hl (take_len hz hlc) (take_cell hz hlc hc)).mono ?_
    rintro e w' ⟨rfl, hO, hb⟩
    exact ⟨_, rfl, hb, fun _ => ⟨rfl, hO⟩⟩

theorem addP (b off i : Nat) : (⟨b, off, none⟩ : Addr).add i = ⟨b, off + i, none⟩ := by
  unfold Addr.add
  split <;> simp_all

theorem joined_eq (ps ys : List Int) : splice (splice (List.replicate (ps.length + ys.length) 0) 0 ps) ps.length ys = ps ++ ys := by
  simp [splice]
theorem drop_joined (ps ys : List Int) (lp n : Nat) (h : ps.length = lp) : (ps ++ ys).drop (lp + n) = ys.drop n := by
  subst h
  rw [List.drop_append]
  simp

theorem zz_none' (b off len cap i0 : Nat) (I : Int) (hI : I = (i0 : Int)) (zs : List Int) (w : World) (hB : Bytes w b off len zs) (hi : i0 < len) (h : nN (zs.drop i0) = none) :
    Calls Try.prog 13 #[.slice (some ⟨b, off, none⟩) len cap, .int .i64 I] w fun e w' => e = .returned (.int .i64 (-1)) ∧ w' = w := by
  subst hI; exact zz_none b off len cap i0 zs w hB hi h
theorem zz_some' (b off len cap i0 k : Nat) (I : Int) (hI : I = (i0 : Int)) (zs : List Int) (w : World) (hB : Bytes w b off len zs) (hi : i0 < len) (h : nN (zs.drop i0) = some k) :
    Calls Try.prog 13 #[.slice (some ⟨b, off, none⟩) len cap, .int .i64 I] w fun e w' => e = .returned (.int .i64 (I + (k : Int))) ∧ w' = w := by
  subst hI; exact zz_some b off len cap i0 k zs w hB hi h

theorem bytesDrop {w : World} {g n m : Nat} {ys : List Int} (h : Own w g ys) (hn : ys.length = n) (hm : m ≤ n) (hb : n ≤ 4194304) : Bytes w g m (n - m) (ys.drop m) := by
  have := h.bytes m (n - m) (by omega) (by omega)
  rwa [List.take_of_length_le (by simp; omega)] at this

set_option maxHeartbeats 1600000 in
theorem deep_none (aP : Option Addr) (lp cp : Nat) (zp : List Int) (x : Addr) (ld cd n : Nat) (ys : List Int) (w : World) (wp : IsRow .u8 w aP lp cp zp) (hlp : lp ≤ 524288) (hn : n < ld) (hl : ld ≤ 524288) (HY : Hid (ys.length = ld))
    (HC : Hid (∀ i, i < ld → w.cell? (x.add i) = some (.int .u8 (ys.getD i 0)))) (h : Hid (nN (ys.drop n) = none)) :
    Calls Try.prog 4 #[.slice aP lp cp, .slice (some x) ld cd, .int .i64 n] w fun e w' => e = .returned (.bool true) ∧ Below w.heap.size w w' := by
  have HP : Hid (IsRow .u8 w aP lp cp zp) := wp
  clear wp
  have HPl0 : Hid ((zp.take lp).length = lp) := by
    rcases HP.out with ⟨_, h1, h2, h3⟩ | ⟨_, _, h1, _, h2, _, _⟩
    · show _ = _; subst h1; rfl
    · exact take_len h2 h1
  go_enter Try.func4, Try.ntmps4
  go_wp2_with (first | (go_at_call 15; go_in))
  refine (clone_any aP lp cp zp _ HP.out (by omega)).mono ?_
  rintro e w1 ⟨a1, rfl, hb1, h1⟩
  have HC1 : Hid (∀ i, i < ld → w1.cell? (x.add i) = some (.int .u8 (ys.getD i 0))) := fun i hi => (hb1.cell (lt_of_cell (HC.out i hi))).trans (HC.out i hi)
  go_wp2_with fail
  refine (clone_some x ld cd ys _ (by omega) HY.out HC1.out).mono ?_
  rintro e w2 ⟨rfl, hO2, hb2⟩
  obtain ⟨ps, hps⟩ : ∃ ps, ps = zp.take lp := ⟨_, rfl⟩
  rw [← hps] at h1 HPl0
  clear hps HP
  have HPl : Hid (ps.length = lp) := HPl0
  have hsz1 := hb1.size
  have hsz2 := hb2.size
  have hlt2 := hO2.lt
  have h2 : Hid (0 < lp → a1 = some ⟨w.heap.size, 0, none⟩ ∧ Own w2 w.heap.size ps) := fun hp => ⟨(h1.out hp).1, (h1.out hp).2.below hb2 (h1.out hp).2.lt⟩
  clear h1
  go_wp2_with fail
  refine (zz_none _ _ _ _ n ys _ (hO2.bytesAll HY.out (by omega)) hn h.out).mono ?_
  rintro e w2 ⟨rfl, rfl⟩
  have HJ0 : Hid (splice (splice (List.replicate (lp + ld) 0) 0 ps) lp ys = ps ++ ys) := by
    show _ = _
    rw [← HPl.out, ← HY.out]; exact joined_eq ps ys
  have HJ : Hid ((ps ++ ys).length = lp + ld) := by show _ = _; rw [List.length_append, HPl.out, HY.out]
  go_wp2_with (first | (at_make; refine wpList_make_bytes _ rfl _ _ rfl _ _ _ _ (lp + ld) rfl rfl (by omega) (by omega) (by omega) ?_; intro w3 hO3 hb3) | ((with_reducible show wpList _ _ _ (Oper.mk _ (Op.call (Call.mk (Callee.builtin Builtin.copy) _ _)) _ _ _ _ :: _) _ _); go_must (refine wpList_copy_bytes _ rfl _ _ rfl _ _ _ _ _ _ rfl rfl w2.heap.size 0 _ hO3 ps ?c1 ?c2 ?c3 ?_)))
  case c1 => rw [HPl.out]; simp
  case c2 =>
    intro hp
    have hp' : 0 < lp := by rw [← HPl.out]; exact hp
    refine ⟨_, (h2.out hp').1, fun j hj => ?_⟩
    have hO := (h2.out hp').2
    have hc := (hO.below hb3 hO.lt).cell j hj
    rw [addP]
    simpa [List.getD] using hc
  case c3 => rw [HPl.out]; simp
  intro w4 hO4 hb4 hk4
  have hO2b : Own w4 w1.heap.size ys := (hO2.below hb3 hlt2).below hb4 hlt2
  clear hO3
  go_wp2_with ((with_reducible show wpList _ _ _ (Oper.mk _ (Op.call (Call.mk (Callee.builtin Builtin.copy) _ _)) _ _ _ _ :: _) _ _); go_must (refine wpList_copy_bytes _ rfl _ _ rfl _ _ _ _ _ _ rfl rfl w2.heap.size lp _ hO4 ys ?d1 ?d2 ?d3 ?_))
  case d1 => rw [HY.out]; simp
  case d2 =>
    intro _ j hj
    have hc := hO2b.cell j hj
    simpa [List.getD] using hc
  case d3 => rw [length_splice _ _ _ (by rw [HPl.out]; simp), HY.out]; simp
  intro w5 hO5' hb5 hk5
  have hO5 : Own w5 w2.heap.size (ps ++ ys) := by rw [← HJ0.out]; exact hO5'
  have hO2' : Own w5 w1.heap.size ys := hO2b.below hb5 hlt2
  clear hO5' hO4 hO2b
  go_wp2_with fail
  refine (zz_none' _ _ _ _ (lp + n) _ (by omega) (ps ++ ys) _ (hO5.bytesAll HJ.out (by omega)) (by omega) (by rw [drop_joined ps ys lp n HPl.out]; exact h.out)).mono ?_
  rintro e w5 ⟨rfl, rfl⟩
  go_wp2_with fail
  refine (zz_zero_none _ _ _ _ (ys.drop n) _ (bytesDrop hO2' HY.out (by omega) (by omega)) (by omega) h.out).mono ?_
  rintro e w5 ⟨rfl, rfl⟩
  clear hO2 hO2' hO5
  go_wp2
  go_ret
  refine ⟨rfl, ?_⟩
  have l1 : w.heap.size ≤ w2.heap.size := by omega
  exact (((hb1.trans (hb2.mono hsz1)).trans (hb3.mono l1)).trans (hb4.mono l1)).trans (hb5.mono l1)
set_option maxHeartbeats 1600000 in
theorem deep_some (aP : Option Addr) (lp cp : Nat) (zp : List Int) (x : Addr) (ld cd n : Nat) (ys : List Int) (w : World) (wp : IsRow .u8 w aP lp cp zp) (hlp : lp ≤ 524288) (hn : n < ld) (hl : ld ≤ 524288) (HY : Hid (ys.length = ld))
    (HC : Hid (∀ i, i < ld → w.cell? (x.add i) = some (.int .u8 (ys.getD i 0)))) (k : Nat) (h : Hid (nN (ys.drop n) = some k)) :
    Calls Try.prog 4 #[.slice aP lp cp, .slice (some x) ld cd, .int .i64 n] w fun e w' => e = .returned (.bool true) ∧ Below w.heap.size w w' := by
  have HP : Hid (IsRow .u8 w aP lp cp zp) := wp
  clear wp
  have hkl : n + k ≤ ld := by
    have := (nN_take _ _ h.out).2.1
    rw [List.length_drop, HY.out] at this
    omega
  have HPl0 : Hid ((zp.take lp).length = lp) := by
    rcases HP.out with ⟨_, h1, h2, h3⟩ | ⟨_, _, h1, _, h2, _, _⟩
    · show _ = _; subst h1; rfl
    · exact take_len h2 h1
  go_enter Try.func4, Try.ntmps4
  go_wp2_with (first | (go_at_call 15; go_in))
  refine (clone_any aP lp cp zp _ HP.out (by omega)).mono ?_
  rintro e w1 ⟨a1, rfl, hb1, h1⟩
  have HC1 : Hid (∀ i, i < ld → w1.cell? (x.add i) = some (.int .u8 (ys.getD i 0))) := fun i hi => (hb1.cell (lt_of_cell (HC.out i hi))).trans (HC.out i hi)
  go_wp2_with fail
  refine (clone_some x ld cd ys _ (by omega) HY.out HC1.out).mono ?_
  rintro e w2 ⟨rfl, hO2, hb2⟩
  obtain ⟨ps, hps⟩ : ∃ ps, ps = zp.take lp := ⟨_, rfl⟩
  rw [← hps] at h1 HPl0
  clear hps HP
  have HPl : Hid (ps.length = lp) := HPl0
  have hsz1 := hb1.size
  have hsz2 := hb2.size
  have hlt2 := hO2.lt
  have h2 : Hid (0 < lp → a1 = some ⟨w.heap.size, 0, none⟩ ∧ Own w2 w.heap.size ps) := fun hp => ⟨(h1.out hp).1, (h1.out hp).2.below hb2 (h1.out hp).2.lt⟩
  clear h1
  go_wp2_with fail
  refine (zz_some _ _ _ _ n k ys _ (hO2.bytesAll HY.out (by omega)) hn h.out).mono ?_
  rintro e w2 ⟨rfl, rfl⟩
  have HJ0 : Hid (splice (splice (List.replicate (lp + ld) 0) 0 ps) lp ys = ps ++ ys) := by
    show _ = _
    rw [← HPl.out, ← HY.out]; exact joined_eq ps ys
  have HJ : Hid ((ps ++ ys).length = lp + ld) := by show _ = _; rw [List.length_append, HPl.out, HY.out]
  go_wp2_with (first | (at_make; refine wpList_make_bytes _ rfl _ _ rfl _ _ _ _ (lp + ld) rfl rfl (by omega) (by omega) (by omega) ?_; intro w3 hO3 hb3) | ((with_reducible show wpList _ _ _ (Oper.mk _ (Op.call (Call.mk (Callee.builtin Builtin.copy) _ _)) _ _ _ _ :: _) _ _); go_must (refine wpList_copy_bytes _ rfl _ _ rfl _ _ _ _ _ _ rfl rfl w2.heap.size 0 _ hO3 ps ?c1 ?c2 ?c3 ?_)))
  case c1 => rw [HPl.out]; simp
  case c2 =>
    intro hp
    have hp' : 0 < lp := by rw [← HPl.out]; exact hp
    refine ⟨_, (h2.out hp').1, fun j hj => ?_⟩
    have hO := (h2.out hp').2
    have hc := (hO.below hb3 hO.lt).cell j hj
    rw [addP]
    simpa [List.getD] using hc
  case c3 => rw [HPl.out]; simp
  intro w4 hO4 hb4 hk4
  have hO2b : Own w4 w1.heap.size ys := (hO2.below hb3 hlt2).below hb4 hlt2
  clear hO3
  go_wp2_with ((with_reducible show wpList _ _ _ (Oper.mk _ (Op.call (Call.mk (Callee.builtin Builtin.copy) _ _)) _ _ _ _ :: _) _ _); go_must (refine wpList_copy_bytes _ rfl _ _ rfl _ _ _ _ _ _ rfl rfl w2.heap.size lp _ hO4 ys ?d1 ?d2 ?d3 ?_))
  case d1 => rw [HY.out]; simp
  case d2 =>
    intro _ j hj
    have hc := hO2b.cell j hj
    simpa [List.getD] using hc
  case d3 => rw [length_splice _ _ _ (by rw [HPl.out]; simp), HY.out]; simp
  intro w5 hO5' hb5 hk5
  have hO5 : Own w5 w2.heap.size (ps ++ ys) := by rw [← HJ0.out]; exact hO5'
  have hO2' : Own w5 w1.heap.size ys := hO2b.below hb5 hlt2
  clear hO5' hO4 hO2b
  go_wp2_with fail
  refine (zz_some' _ _ _ _ (lp + n) k _ (by omega) (ps ++ ys) _ (hO5.bytesAll HJ.out (by omega)) (by omega) (by rw [drop_joined ps ys lp n HPl.out]; exact h.out)).mono ?_
  rintro e w5 ⟨rfl, rfl⟩
  go_wp2_with fail
  refine (zz_zero _ _ _ _ k (ys.drop n) _ (bytesDrop hO2' HY.out (by omega) (by omega)) (by omega) h.out).mono ?_
  rintro e w5 ⟨rfl, rfl⟩
  clear hO2 hO2' hO5
  go_wp2
  go_ret
  refine ⟨ret_bool (show ((k : Int) == (n : Int) + (k : Int) - (n : Int)) = true by rw [beq_iff_eq]; omega), ?_⟩
  have l1 : w.heap.size ≤ w2.heap.size := by omega
  exact (((hb1.trans (hb2.mono hsz1)).trans (hb3.mono l1)).trans (hb4.mono l1)).trans (hb5.mono l1)

theorem walk (a0 : Option Addr) (len0 cap0 : Nat) (z0 : List Int) (a1 : Option Addr) (len1 cap1 : Nat) (z1 : List Int) (a2 : Int) (w : World) (w0 : IsRow .u8 w a0 len0 cap0 z0) (w1 : IsRow .u8 w a1 len1 cap1 z1) (w2 : (Lit.int .i64 a2).wf = true) :
    Calls Try.prog 4 #[.slice a0 len0 cap0, .slice a1 len1 cap1, .int .i64 a2] w fun e w' => e = .returned (.bool true) ∧ Below w.heap.size w w' := by
  have m0 : len0 ≤ 9223372036854775807 := by
    rcases w0 with ⟨_, h1, _, _⟩ | ⟨_, _, h1, h2, _, _, _⟩
    · omega
    · unfold maxLen at h2; omega
  have m1 : len1 ≤ 9223372036854775807 := by
    rcases w1 with ⟨_, h1, _, _⟩ | ⟨_, _, h1, h2, _, _, _⟩
    · omega
    · unfold maxLen at h2; omega
  by_cases hb0 : (524288 : Int) < (len0 : Int)
  · clear w0 w1 w2
    go_enter Try.func4, Try.ntmps4
    go_wp2
    all_goals (go_ret; exact ⟨rfl, Below.refl _ _⟩)
  by_cases hb1 : (524288 : Int) < (len1 : Int)
  · clear w0 w1 w2
    go_enter Try.func4, Try.ntmps4
    go_wp2
    all_goals (go_ret; exact ⟨rfl, Below.refl _ _⟩)
  by_cases hneg : a2 < 0
  · clear w0 w1 w2
    go_enter Try.func4, Try.ntmps4
    go_wp2
    go_ret
    exact ⟨rfl, Below.refl _ _⟩
  by_cases hge : (len1 : Int) ≤ a2
  · clear w0 w1 w2
    go_enter Try.func4, Try.ntmps4
    go_wp2
    go_ret
    exact ⟨rfl, Below.refl _ _⟩
  obtain ⟨n, rfl⟩ : ∃ n : Nat, a2 = (n : Int) := ⟨a2.toNat, by omega⟩
  have hn : n < len1 := by omega
  rcases w1 with ⟨_, h0, _, _⟩ | ⟨x, rfl, hlc, _, hz, hc, _⟩
  · omega
  cases h : nN ((z1.take len1).drop n) with
  | none => exact deep_none a0 len0 cap0 z0 x len1 cap1 n (z1.take len1) w w0 (by omega) hn (by omega) (take_len hz hlc) (take_cell hz hlc hc) h
  | some k => exact deep_some a0 len0 cap0 z0 x len1 cap1 n (z1.take len1) w w0 (by omega) hn (by omega) (take_len hz hlc) (take_cell hz hlc hc) k h
#print axioms walk
end Go.Proofs.Qxb6600068a.fnNumberAfterDependsOnlyOnWhatFollows
