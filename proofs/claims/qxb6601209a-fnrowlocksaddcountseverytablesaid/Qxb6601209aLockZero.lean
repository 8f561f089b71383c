/-
  THE WALK OF 'FnRowLocksAddCountsEveryTable' AT NO TABLE.
-/
import Derived.Test.Qxb6601209aFin
import Derived.WalkSmall
namespace Go.Proofs.Qxb6601209a.CountWalk
open Go.RowKit Go.Maps Go.WideMaps

theorem heap_new' (w : World) (o : Obj) : (w.alloc o).heap[w.heap.size]? = some o := by
  show (w.heap.push o)[w.heap.size]? = _
  simp

set_option maxRecDepth 100000 in
set_option maxHeartbeats 4000000 in
theorem zero_nil (cap : Nat) (p : ByteArray) (w : World) (hp : p.size ≤ 1048576) :
    Calls Try.prog 5 #[.slice none 0 cap, .string p] w fun e w' => e = .returned (.bool true) ∧ Below w.heap.size w w' := by
  have q26 : ∀ (w : World) (a : Option Addr) (n c n' c' : Nat), (binOp .neq 26 (.slice a n c) (.slice none n' c')).run Try.prog w = .ok (.bool (!a.isNone)) w := fun w a n c n' c' => run_neq_slice_nil_any w 26 9 a n c n' c' Try.underlying26
  go_enter Try.func5, Try.ntmps5
  go_wp2_with fail
  refine (bytes_none none cap p _).mono ?_
  rintro e w ⟨⟨β, rfl⟩, rfl⟩
  cases β with
  | false =>
    go_wp2
    go_ret
    exact ⟨rfl, Below.refl _ _⟩
  | true =>
  go_wp2
  refine wp_loop_rounds 1 ?_
  rw [rounds_succ]
  go_wp2
  refine wp_loop_rounds 1 ?_
  rw [rounds_succ]
  go_wp2_with fail
  have hb1 : Below w.heap.size w w := Below.refl _ _
  refine (zz_new 0 0 ⟨#[]⟩ none _).mono ?_
  rintro e wa ⟨rfl, hwa⟩
  have hB0 : Blk wa w.heap.size 0 ⟨#[]⟩ 0 none := by
    show wa.heap[w.heap.size]? = _
    rw [hwa]
    exact heap_new' w _
  have hba : Below w.heap.size w wa := by rw [hwa]; exact hb1.alloc hb1.size _
  have hsa : wa.heap.size = w.heap.size + 1 := by rw [hwa, size_alloc]
  clear hwa hb1
  have hmm := @run_makeMap Try.prog
  obtain ⟨C, hC⟩ : ∃ C, C = w.heap.size := ⟨_, rfl⟩
  rw [← hC] at hB0 hsa
  rw [← hC]
  clear hC
  go_wp2_with fail
  refine wp_loop_rounds 1 ?_
  rw [rounds_succ]
  go_wp2_with fail
  have hB1 : Blk (wa.alloc (.map #[] 0)) C 0 ⟨#[]⟩ 0 none := hB0.same (Below.heap_alloc _ _ _ (by omega))
  have hm0 : Mp (wa.alloc (.map #[] 0)) (C + 1) (fun _ => 0) 0 0 := by rw [← hsa]; exact Mp.made wa
  have hb0 : Below w.heap.size w (wa.alloc (.map #[] 0)) := hba.alloc hba.size _
  refine (zz_fields C _ _ _ none _ hB1).mono ?_
  rintro e wq ⟨rfl, q, hwq⟩
  have hh : wq.heap = (wa.alloc (.map #[] 0)).heap := by rw [hwq]; rfl
  have hmq : Mp wq (C + 1) (fun _ => 0) 0 0 := hm0.same (by rw [hh])
  have hbq : Below w.heap.size w wq := hb0.trans (by rw [hwq]; exact ⟨rfl, rfl, rfl, Nat.le_refl _, fun _ _ => rfl⟩)
  clear hwq hh hB1 hm0 hb0 hB0 hba hmm hsa
  have hln : ∀ ty, (Builtin.len_ #[30] ty #[.map (some (C + 1))]).run Try.prog wq = .ok (.int .i64 ((0 : Nat) : Int)) wq := fun ty => hmq.len ty
  have hlm : ∀ ty, (Builtin.len_ #[30] ty #[.map none]).run Try.prog wq = .ok (.int .i64 ((0 : Nat) : Int)) wq := fun ty => len_none wq ty
  have q30 : ∀ (w : World) (r : Option Nat), (binOp .eql 30 (.map r) (.map none)).run Try.prog w = .ok (.bool r.isNone) w := fun w r => run_eql_map_nil w 30 9 3 r Try.underlying30
  have q30n : ∀ (w : World) (r : Option Nat), (binOp .neq 30 (.map r) (.map none)).run Try.prog w = .ok (.bool (!r.isNone)) w := fun w r => run_neq_map_nil w 30 9 3 r Try.underlying30
  have hps : p.size ≤ maxLen := by unfold maxLen; omega
  have HR : Hid (∀ n : Nat, Calls Try.prog 14 #[.string ⟨#[]⟩, .int .i64 0, .map none, .string p] (wq.drewN n) fun e w' => e = .returned (.int .i64 0) ∧ w' = wq.drewN n) := fun n => row_more ⟨#[]⟩ p 0 0 (.map none) _ (.inl (by rw [toList_eq]; rfl)) (look_none _ hps)
  have hl : ∀ n : Nat, (Instr.lookup 30 (.map (some (C + 1))) (.string p) false).run Try.prog (wq.drewN n) = .ok (.int .i64 0) (wq.drewN n) := fun n => (hmq.same (w' := wq.drewN n) rfl).look hps
  clear hmq
  go_wp2_with (((with_reducible show wpList _ _ _ (Oper.mk _ (Op.call (Call.mk (Callee.builtin Builtin.len) _ #[30])) _ _ _ _ :: _) _ _); first | refine wpList_len_map _ rfl _ rfl _ rfl _ hln ?_ | refine wpList_len_map _ rfl _ rfl _ rfl _ hlm ?_))
  refine wp_loop_rounds 1 ?_
  rw [rounds_succ]
  go_wp2
  go_quiet ((go_at_call 14; exact Calls.quiet_of_same (HR.out _)))
  go_wp2
  go_ret
  exact ⟨rfl, below_drewN hbq _⟩

set_option maxRecDepth 100000 in
set_option maxHeartbeats 4000000 in
theorem zero_some (x : Addr) (cap : Nat) (p : ByteArray) (w : World) (hp : p.size ≤ 1048576) :
    Calls Try.prog 5 #[.slice (some x) 0 cap, .string p] w fun e w' => e = .returned (.bool true) ∧ Below w.heap.size w w' := by
  have q26 : ∀ (w : World) (a : Option Addr) (n c n' c' : Nat), (binOp .neq 26 (.slice a n c) (.slice none n' c')).run Try.prog w = .ok (.bool (!a.isNone)) w := fun w a n c n' c' => run_neq_slice_nil_any w 26 9 a n c n' c' Try.underlying26
  go_enter Try.func5, Try.ntmps5
  go_wp2_with fail
  refine (bytes_none (some x) cap p _).mono ?_
  rintro e w ⟨⟨β, rfl⟩, rfl⟩
  cases β with
  | false =>
    go_wp2
    go_ret
    exact ⟨rfl, Below.refl _ _⟩
  | true =>
  go_wp2
  refine wp_loop_rounds 1 ?_
  rw [rounds_succ]
  go_wp2
  refine wp_loop_rounds 1 ?_
  rw [rounds_succ]
  go_wp2_with (at_make; refine wpList_make_strs _ rfl _ _ rfl _ _ _ _ 0 rfl rfl rfl rfl (by omega) ?_; intro w1 hO1 hb1)
  clear hO1
  refine wp_loop_rounds 1 ?_
  rw [rounds_succ]
  go_wp2_with fail
  refine (zz_new 0 0 ⟨#[]⟩ none _).mono ?_
  rintro e wa ⟨rfl, hwa⟩
  have hB0 : Blk wa w1.heap.size 0 ⟨#[]⟩ 0 none := by
    show wa.heap[w1.heap.size]? = _
    rw [hwa]
    exact heap_new' w1 _
  have hba : Below w.heap.size w wa := by rw [hwa]; exact hb1.alloc hb1.size _
  have hsa : wa.heap.size = w1.heap.size + 1 := by rw [hwa, size_alloc]
  clear hwa hb1
  have hmm := @run_makeMap Try.prog
  obtain ⟨C, hC⟩ : ∃ C, C = w1.heap.size := ⟨_, rfl⟩
  rw [← hC] at hB0 hsa
  rw [← hC]
  clear hC
  go_wp2_with fail
  refine wp_loop_rounds 1 ?_
  rw [rounds_succ]
  go_wp2_with fail
  have hB1 : Blk (wa.alloc (.map #[] 0)) C 0 ⟨#[]⟩ 0 none := hB0.same (Below.heap_alloc _ _ _ (by omega))
  have hm0 : Mp (wa.alloc (.map #[] 0)) (C + 1) (fun _ => 0) 0 0 := by rw [← hsa]; exact Mp.made wa
  have hb0 : Below w.heap.size w (wa.alloc (.map #[] 0)) := hba.alloc hba.size _
  refine (zz_fields C _ _ _ none _ hB1).mono ?_
  rintro e wq ⟨rfl, q, hwq⟩
  have hh : wq.heap = (wa.alloc (.map #[] 0)).heap := by rw [hwq]; rfl
  have hmq : Mp wq (C + 1) (fun _ => 0) 0 0 := hm0.same (by rw [hh])
  have hbq : Below w.heap.size w wq := hb0.trans (by rw [hwq]; exact ⟨rfl, rfl, rfl, Nat.le_refl _, fun _ _ => rfl⟩)
  clear hwq hh hB1 hm0 hb0 hB0 hba hmm hsa
  have hln : ∀ ty, (Builtin.len_ #[30] ty #[.map (some (C + 1))]).run Try.prog wq = .ok (.int .i64 ((0 : Nat) : Int)) wq := fun ty => hmq.len ty
  have hlm : ∀ ty, (Builtin.len_ #[30] ty #[.map none]).run Try.prog wq = .ok (.int .i64 ((0 : Nat) : Int)) wq := fun ty => len_none wq ty
  have q30 : ∀ (w : World) (r : Option Nat), (binOp .eql 30 (.map r) (.map none)).run Try.prog w = .ok (.bool r.isNone) w := fun w r => run_eql_map_nil w 30 9 3 r Try.underlying30
  have q30n : ∀ (w : World) (r : Option Nat), (binOp .neq 30 (.map r) (.map none)).run Try.prog w = .ok (.bool (!r.isNone)) w := fun w r => run_neq_map_nil w 30 9 3 r Try.underlying30
  have hps : p.size ≤ maxLen := by unfold maxLen; omega
  have HR : Hid (∀ n : Nat, Calls Try.prog 14 #[.string ⟨#[]⟩, .int .i64 0, .map none, .string p] (wq.drewN n) fun e w' => e = .returned (.int .i64 0) ∧ w' = wq.drewN n) := fun n => row_more ⟨#[]⟩ p 0 0 (.map none) _ (.inl (by rw [toList_eq]; rfl)) (look_none _ hps)
  have hl : ∀ n : Nat, (Instr.lookup 30 (.map (some (C + 1))) (.string p) false).run Try.prog (wq.drewN n) = .ok (.int .i64 0) (wq.drewN n) := fun n => (hmq.same (w' := wq.drewN n) rfl).look hps
  clear hmq
  go_wp2_with (((with_reducible show wpList _ _ _ (Oper.mk _ (Op.call (Call.mk (Callee.builtin Builtin.len) _ #[30])) _ _ _ _ :: _) _ _); first | refine wpList_len_map _ rfl _ rfl _ rfl _ hln ?_ | refine wpList_len_map _ rfl _ rfl _ rfl _ hlm ?_))
  refine wp_loop_rounds 1 ?_
  rw [rounds_succ]
  go_wp2
  go_quiet ((go_at_call 14; exact Calls.quiet_of_same (HR.out _)))
  go_wp2
  go_ret
  exact ⟨rfl, below_drewN hbq _⟩

#print axioms zero_some
end Go.Proofs.Qxb6601209a.CountWalk
