/-
  (*rowLocks).add, WALKED, a case a theorem.
-/
import Derived.Test.Qxb6601209aCm
import Derived.OneCell
namespace Go.Proofs.Qxb6601209a.CountWalk
open Go.RowKit Go.Maps Go.WideMaps

/-- Block C is a rowLocks. -/
def Blk (w : World) (C : Nat) (a : Int) (t : ByteArray) (n : Int) (mo : Option Nat) : Prop := w.heap[C]? = some (.cells #[.int .i64 a, .string t, .int .i64 n, .map mo] 37 (0, 0))
section
variable {w : World} {C : Nat} {a n : Int} {t : ByteArray} {mo : Option Nat}
theorem Blk.lt (h : Blk w C a t n mo) : C < w.heap.size := lt_of_block h
theorem Blk.c0 (h : Blk w C a t n mo) : w.cell? ⟨C, 0, none⟩ = some (.int .i64 a) := by
  have h' : w.heap[C]? = _ := h
  simp [World.cell?, h']
theorem Blk.c1 (h : Blk w C a t n mo) : w.cell? ⟨C, 1, none⟩ = some (.string t) := by
  have h' : w.heap[C]? = _ := h
  simp [World.cell?, h']
theorem Blk.c2 (h : Blk w C a t n mo) : w.cell? ⟨C, 2, none⟩ = some (.int .i64 n) := by
  have h' : w.heap[C]? = _ := h
  simp [World.cell?, h']
theorem Blk.c3 (h : Blk w C a t n mo) : w.cell? ⟨C, 3, none⟩ = some (.map mo) := by
  have h' : w.heap[C]? = _ := h
  simp [World.cell?, h']
theorem Blk.fr (h : Blk w C a t n mo) (j : Nat) : w.frozen? ⟨C, j, none⟩ = false := by
  have h' : w.heap[C]? = _ := h
  simp [World.frozen?, h']
theorem Blk.same {w' : World} (h : Blk w C a t n mo) (hb : w'.heap[C]? = w.heap[C]?) : Blk w' C a t n mo := hb.trans h
theorem setCell_block {w : World} {C j : Nat} {cs : Array Value} {ty : TypeId} {v : Value} (h : w.heap[C]? = some (.cells cs ty (0, 0))) : (w.setCell ⟨C, j, none⟩ v).heap[C]? = some (.cells (cs.setIfInBounds j v) ty (0, 0)) := by
  have hlt : C < w.heap.size := lt_of_block h
  have hv : w.heap[C] = .cells cs ty (0, 0) := (Array.getElem?_eq_some_iff.1 h).2
  unfold World.setCell
  rw [Array.getElem?_eq_getElem (by simpa using hlt), Array.getElem_modify]
  simp [hv]
theorem Blk.s0 (h : Blk w C a t n mo) (v : Int) : Blk (w.setCell ⟨C, 0, none⟩ (.int .i64 v)) C v t n mo := (setCell_block h).trans (by simp)
theorem Blk.s1 (h : Blk w C a t n mo) (v : ByteArray) : Blk (w.setCell ⟨C, 1, none⟩ (.string v)) C a v n mo := (setCell_block h).trans (by simp)
theorem Blk.s2 (h : Blk w C a t n mo) (v : Int) : Blk (w.setCell ⟨C, 2, none⟩ (.int .i64 v)) C a t v mo := (setCell_block h).trans (by simp)
theorem Blk.s3 (h : Blk w C a t n mo) (v : Option Nat) : Blk (w.setCell ⟨C, 3, none⟩ (.map v)) C a t n v := (setCell_block h).trans (by simp)
end

theorem size_setCell (w : World) (a : Addr) (v : Value) : (w.setCell a v).heap.size = w.heap.size := by simp [World.setCell]
theorem size_alloc (w : World) (o : Obj) : (w.alloc o).heap.size = w.heap.size + 1 := by
  show (w.heap.push o).size = _
  simp
/-- Of the blocks that were there only C, and block M, may have turned. -/
structure Chg (w w' : World) (C : Nat) (M : Option Nat) : Prop where
  os : w'.os = w.os
  tape : w'.tape = w.tape
  output : w'.output = w.output
  size : w.heap.size ≤ w'.heap.size
  block : ∀ k, k < w.heap.size → k ≠ C → some k ≠ M → w'.heap[k]? = w.heap[k]?
theorem Chg.refl (w : World) (C : Nat) (M : Option Nat) : Chg w w C M := ⟨rfl, rfl, rfl, Nat.le_refl _, fun _ _ _ _ => rfl⟩
theorem Chg.trans {a b c : World} {C : Nat} {M : Option Nat} (h : Chg a b C M) (k : Chg b c C M) : Chg a c C M :=
  ⟨k.os.trans h.os, k.tape.trans h.tape, k.output.trans h.output, Nat.le_trans h.size k.size, fun i hi h1 h2 => (k.block i (Nat.lt_of_lt_of_le hi h.size) h1 h2).trans (h.block i hi h1 h2)⟩
theorem Chg.setCell {a w : World} {C j : Nat} {M : Option Nat} (h : Chg a w C M) (v : Value) : Chg a (w.setCell ⟨C, j, none⟩ v) C M :=
  h.trans ⟨rfl, rfl, rfl, by simp [World.setCell], fun k _ h1 _ => Below.heap_setCell _ _ _ _ h1⟩
theorem Chg.grown {a w w' : World} {C : Nat} {M : Option Nat} (h : Chg a w C M) (hg : w.grownBy w' M) : Chg a w' C M :=
  h.trans ⟨hg.os, hg.tape, hg.output, hg.size, fun k hk _ h2 => hg.block k hk h2⟩

set_option maxRecDepth 100000 in
set_option maxHeartbeats 1000000 in
theorem add_same (C : Nat) (a n : Int) (s t : ByteArray) (mo : Option Nat) (w : World) (hB : Blk w C a t n mo) (he : (s.toList == t.toList) = true) (ha0 : 0 ≤ a) (ha : a ≤ 1048576) (hn0 : 0 ≤ n) (hn : n ≤ 1048576) :
    Calls Try.prog 16 #[.pointer (some ⟨C, 0, none⟩), .string s] w fun e w' => e = .returned (.tuple #[]) ∧ Blk w' C (a + 1) t (n + 1) mo ∧ Chg w w' C none := by
  have HB : Hid (Blk w C a t n mo) := hB
  have c0 := hB.c0
  have c1 := hB.c1
  have c2 := hB.c2
  have f0 := hB.fr 0
  have f2 := hB.fr 2
  clear hB
  go_enter Try.func16, Try.ntmps16
  go_wp2
  go_end0
  exact ⟨rfl, (HB.out.s0 _).s2 _, ((Chg.refl _ _ _).setCell _).setCell _⟩

set_option maxRecDepth 100000 in
set_option maxHeartbeats 1000000 in
theorem add_first (C : Nat) (a n : Int) (s : ByteArray) (w : World) (hB : Blk w C a ByteArray.empty n none) (he : (s.toList == []) = false) (hs : s.size ≤ maxLen) (ha0 : 0 ≤ a) (ha : a ≤ 1048576) :
    Calls Try.prog 16 #[.pointer (some ⟨C, 0, none⟩), .string s] w fun e w' => e = .returned (.tuple #[]) ∧ Blk w' C (a + 1) s 1 none ∧ Chg w w' C none := by
  have HB : Hid (Blk w C a ByteArray.empty n none) := hB
  have c0 := hB.c0
  have c1 := hB.c1
  have c2 := hB.c2
  have c3 := hB.c3
  have f0 := hB.fr 0
  have f1 := hB.fr 1
  have f2 := hB.fr 2
  have hl : ∀ w : World, (Instr.lookup 30 (.map none) (.string s) false).run Try.prog w = .ok (.int .i64 0) w := fun w => look_none w hs
  clear hB
  go_enter Try.func16, Try.ntmps16
  go_wp2
  go_end0
  exact ⟨rfl, ((HB.out.s0 _).s1 _).s2 _, (((Chg.refl _ _ _).setCell _).setCell _).setCell _⟩

set_option maxRecDepth 100000 in
set_option maxHeartbeats 1000000 in
theorem add_hit (C : Nat) (a n : Int) (s t : ByteArray) (M : Nat) (f : List UInt8 → Nat) (N m : Nat) (w : World) (hB : Blk w C a t n (some M)) (hM : Mp w M f N m) (hMC : M ≠ C) (hm : m ≤ 1048576) (he : (s.toList == t.toList) = false) (hs : s.size ≤ maxLen)
    (hf : 0 < f s.data.toList) (hf2 : f s.data.toList ≤ 1048576) (ha0 : 0 ≤ a) (ha : a ≤ 1048576) :
    Calls Try.prog 16 #[.pointer (some ⟨C, 0, none⟩), .string s] w fun e w' => e = .returned (.tuple #[]) ∧ Blk w' C (a + 1) t n (some M) ∧ Mp w' M (upd f s.data.toList) N (m + 1) ∧ Chg w w' C (some M) := by
  have HB : Hid (Blk w C a t n (some M)) := hB
  have c0 := hB.c0
  have c1 := hB.c1
  have c3 := hB.c3
  have f0 := hB.fr 0
  have hM1 : Mp (w.setCell ⟨C, 0, none⟩ (.int .i64 (a + 1))) M f N m := hM.setCell hMC _
  have hl := hM1.look hs
  obtain ⟨F, hF⟩ : ∃ F, F = f s.data.toList := ⟨_, rfl⟩
  rw [← hF] at hl hf hf2
  have HF : Hid (F = f s.data.toList) := hF
  clear hF hB
  go_enter Try.func16, Try.ntmps16
  go_wp2_with (at_mapUpdate; go_must (refine wpList_upd _ rfl _ _ _ rfl M f N m rfl hM1 hm s hs _ rfl rfl (by rw [← HF.out]) (by rw [← HF.out]; exact hf2) ?_))
  intro w' hM' hg
  go_wp2
  go_end0
  refine ⟨rfl, (HB.out.s0 (a + 1)).same (hg.block C (by simpa [World.setCell] using HB.out.lt) (by simpa using Ne.symm hMC)), ?_, ((Chg.refl _ _ _).setCell _).grown hg⟩
  rw [szN_hit (by rw [← HF.out]; exact hf)] at hM'
  exact hM'

set_option maxRecDepth 100000 in
set_option maxHeartbeats 1000000 in
theorem add_more (C : Nat) (a n : Int) (s t : ByteArray) (M : Nat) (f : List UInt8 → Nat) (N m : Nat) (w : World) (hB : Blk w C a t n (some M)) (hM : Mp w M f N m) (hMC : M ≠ C) (hm : m ≤ 1048576) (he : (s.toList == t.toList) = false) (hs : s.size ≤ maxLen)
    (ht : (t.toList == []) = false) (hf : f s.data.toList = 0) (ha0 : 0 ≤ a) (ha : a ≤ 1048576) :
    Calls Try.prog 16 #[.pointer (some ⟨C, 0, none⟩), .string s] w fun e w' => e = .returned (.tuple #[]) ∧ Blk w' C (a + 1) t n (some M) ∧ Mp w' M (upd f s.data.toList) (N + 1) (m + 1) ∧ Chg w w' C (some M) := by
  have HB : Hid (Blk w C a t n (some M)) := hB
  have c0 := hB.c0
  have c1 := hB.c1
  have c3 := hB.c3
  have f0 := hB.fr 0
  have hM1 : Mp (w.setCell ⟨C, 0, none⟩ (.int .i64 (a + 1))) M f N m := hM.setCell hMC _
  have hl := hM1.look hs
  rw [hf] at hl
  have HF : Hid (f s.data.toList = 0) := hf
  have q30 : ∀ (w : World) (r : Option Nat), (binOp .eql 30 (.map r) (.map none)).run Try.prog w = .ok (.bool r.isNone) w := fun w r => run_eql_map_nil w 30 9 3 r Try.underlying30
  clear hf hB
  go_enter Try.func16, Try.ntmps16
  go_wp2_with (at_mapUpdate; go_must (refine wpList_upd _ rfl _ _ _ rfl M f N m rfl hM1 hm s hs _ rfl rfl (by rw [HF.out]; rfl) (by rw [HF.out]; omega) ?_))
  intro w' hM' hg
  go_wp2
  go_end0
  refine ⟨rfl, (HB.out.s0 (a + 1)).same (hg.block C (by simpa [World.setCell] using HB.out.lt) (by simpa using Ne.symm hMC)), ?_, ((Chg.refl _ _ _).setCell _).grown hg⟩
  rw [szN_miss HF.out] at hM'
  exact hM'

set_option maxRecDepth 100000 in
set_option maxHeartbeats 1000000 in
theorem add_new (C : Nat) (a n : Int) (s t : ByteArray) (w : World) (hB : Blk w C a t n none) (he : (s.toList == t.toList) = false) (hs : s.size ≤ maxLen)
    (ht : (t.toList == []) = false) (ha0 : 0 ≤ a) (ha : a ≤ 1048576) :
    Calls Try.prog 16 #[.pointer (some ⟨C, 0, none⟩), .string s] w fun e w' => e = .returned (.tuple #[]) ∧ Blk w' C (a + 1) t n (some w.heap.size) ∧ Mp w' w.heap.size (upd (fun _ => 0) s.data.toList) 1 1 ∧ Chg w w' C none := by
  have HB : Hid (Blk w C a t n none) := hB
  have c0 := hB.c0
  have c1 := hB.c1
  have c3 := hB.c3
  have f0 := hB.fr 0
  have f3 := hB.fr 3
  have hlt := hB.lt
  have hl0 : ∀ w : World, (Instr.lookup 30 (.map none) (.string s) false).run Try.prog w = .ok (.int .i64 0) w := fun w => look_none w hs
  have q30 : ∀ (w : World) (r : Option Nat), (binOp .eql 30 (.map r) (.map none)).run Try.prog w = .ok (.bool r.isNone) w := fun w r => run_eql_map_nil w 30 9 3 r Try.underlying30
  have hmm := @run_makeMap Try.prog
  have hM1 : Mp (((w.setCell ⟨C, 0, none⟩ (.int .i64 (a + 1))).setCell ⟨C, 3, none⟩ (.map (some w.heap.size))).alloc (.map #[] 0)) w.heap.size (fun _ => 0) 0 0 := by
    have := Mp.made ((w.setCell ⟨C, 0, none⟩ (.int .i64 (a + 1))).setCell ⟨C, 3, none⟩ (.map (some w.heap.size)))
    rwa [size_setCell, size_setCell] at this
  have hl : (Instr.lookup 30 (.map (some w.heap.size)) (.string s) false).run Try.prog (((w.setCell ⟨C, 0, none⟩ (.int .i64 (a + 1))).setCell ⟨C, 3, none⟩ (.map (some w.heap.size))).alloc (.map #[] 0)) = .ok (.int .i64 0) (((w.setCell ⟨C, 0, none⟩ (.int .i64 (a + 1))).setCell ⟨C, 3, none⟩ (.map (some w.heap.size))).alloc (.map #[] 0)) := hM1.look hs
  clear hB
  go_enter Try.func16, Try.ntmps16
  go_wp2_with (at_mapUpdate; go_must (refine wpList_upd _ rfl _ _ _ rfl w.heap.size (fun _ => 0) 0 0 rfl hM1 (by omega) s hs _ rfl rfl rfl (by omega) ?_))
  intro w' hM' hg
  go_wp2
  go_end0
  have hB3 : Blk (((w.setCell ⟨C, 0, none⟩ (.int .i64 (a + 1))).setCell ⟨C, 3, none⟩ (.map (some w.heap.size))).alloc (.map #[] 0)) C (a + 1) t n (some w.heap.size) :=
    ((HB.out.s0 (a + 1)).s3 _).same (Below.heap_alloc _ _ _ (by rw [size_setCell, size_setCell]; exact hlt))
  refine ⟨rfl, hB3.same (hg.block C hB3.lt (by simp; omega)), hM', ?_⟩
  have h1 : Chg w ((w.setCell ⟨C, 0, none⟩ (.int .i64 (a + 1))).setCell ⟨C, 3, none⟩ (.map (some w.heap.size))) C none := ((Chg.refl _ _ _).setCell _).setCell _
  refine ⟨hg.os.trans h1.os, hg.tape.trans h1.tape, hg.output.trans h1.output, ?_, fun k hk hC _ => ?_⟩
  · have := hg.size
    rw [size_alloc, size_setCell, size_setCell] at this
    omega
  · rw [hg.block k (by rw [size_alloc, size_setCell, size_setCell]; omega) (by simp; omega), Below.heap_alloc _ _ _ (by rw [size_setCell, size_setCell]; exact hk)]
    exact h1.block k hk hC (by simp)
end Go.Proofs.Qxb6601209a.CountWalk
