/-
  THE SMALL CALLEES of FnRowLocksAddCountsEveryTable.
-/
import Derived.Test.Qxb6601209aAdd
import Derived.Deep.QuietTactic
import Derived.BigQuiet
namespace Go.Proofs.Qxb6601209a.CountWalk
open Go.RowKit Go.Maps Go.WideMaps

theorem ret_int {k : IntKind} {a b : Int} (h : a = b) : Ending.returned (.int k a) = .returned (.int k b) := by rw [h]
theorem ret_bool {a b : Bool} (h : a = b) : Ending.returned (.bool a) = .returned (.bool b) := by rw [h]

theorem zz_add (p s : Value) (w : World) (Q : World → Prop) (h : Hid (Calls Try.prog 16 #[p, s] w fun e w' => e = .returned (.tuple #[]) ∧ Q w')) :
    Calls Try.prog 12 #[p, s] w fun e w' => e = .returned (.tuple #[]) ∧ Q w' := by
  go_enter Try.func12, Try.ntmps12
  go_wp2_with fail
  refine h.out.mono ?_
  rintro e w' ⟨rfl, hq⟩
  go_wp2
  go_end0
  exact ⟨rfl, hq⟩

theorem zz_new (a n : Int) (t : ByteArray) (mo : Option Nat) (w : World) :
    Calls Try.prog 11 #[.int .i64 a, .string t, .int .i64 n, .map mo] w fun e w' => e = .returned (.pointer (some ⟨w.heap.size, 0, none⟩)) ∧ w' = w.alloc (.cells #[.int .i64 a, .string t, .int .i64 n, .map mo] 37) := by
  go_enter Try.func11, Try.ntmps11
  go_wp2
  go_ret
  exact ⟨rfl, rfl⟩

theorem zz_fields (C : Nat) (a n : Int) (t : ByteArray) (mo : Option Nat) (w : World) (hB : Blk w C a t n mo) :
    Calls Try.prog 13 #[.pointer (some ⟨C, 0, none⟩)] w fun e w' => e = .returned (.tuple #[.int .i64 a, .string t, .int .i64 n, .map mo]) ∧ ∃ q, w' = w.drewN q := by
  have c0 := hB.c0
  have c1 := hB.c1
  have c2 := hB.c2
  have c3 := hB.c3
  clear hB
  go_enter Try.func13, Try.ntmps13
  go_wp2
  go_quiet (fail)
  go_wp2
  exact bodyPost_ret (v := .tuple #[.int .i64 a, .string t, .int .i64 n, .map mo]) (by simp [results, Try.results13, go_sem]) rfl ⟨rfl, _, rfl⟩

/-- What rowCountZZ answers. -/
theorem row_table (t s : ByteArray) (n : Int) (mo : Value) (w : World) (ht : (t.toList == []) = false) (he : (s.toList == t.toList) = true) :
    Calls Try.prog 14 #[.string t, .int .i64 n, mo, .string s] w fun e w' => e = .returned (.int .i64 n) ∧ w' = w := by
  go_enter Try.func14, Try.ntmps14
  go_wp2
  go_ret
  exact ⟨rfl, rfl⟩
theorem row_more (t s : ByteArray) (n c : Int) (mo : Value) (w : World) (he : (t.toList == []) = true ∨ (s.toList == t.toList) = false) (hl : (Instr.lookup 30 mo (.string s) false).run Try.prog w = .ok (.int .i64 c) w) :
    Calls Try.prog 14 #[.string t, .int .i64 n, mo, .string s] w fun e w' => e = .returned (.int .i64 c) ∧ w' = w := by
  rcases he with he | he
  · go_enter Try.func14, Try.ntmps14
    go_wp2
    go_ret
    exact ⟨rfl, rfl⟩
  · cases ht : (t.toList == []) with
    | true =>
      go_enter Try.func14, Try.ntmps14
      go_wp2
      go_ret
      exact ⟨rfl, rfl⟩
    | false =>
      go_enter Try.func14, Try.ntmps14
      go_wp2
      go_ret
      exact ⟨rfl, rfl⟩

/-- A slice of strings in memory. -/
structure Strs (w : World) (b off len : Nat) (ss : List ByteArray) : Prop where
  size : ss.length = len
  cell : ∀ j, j < len → w.cell? ⟨b, off + j, none⟩ = some (.string (ss.getD j ByteArray.empty))

def SomeBool (e : Ending) : Prop := ∃ β, e = .returned (.bool β)

set_option maxRecDepth 100000 in
set_option maxHeartbeats 1000000 in
theorem bytes_some (b off len cap : Nat) (ss : List ByteArray) (p : ByteArray) (w : World) (hS : Strs w b off len ss) (hl : len ≤ 9223372036854775807) :
    Calls Try.prog 10 #[.slice (some ⟨b, off, none⟩) len cap, .string p] w fun e w' => SomeBool e ∧ w' = w := by
  have HC : Hid (∀ j, j < len → w.cell? ⟨b, off + j, none⟩ = some (.string (ss.getD j ByteArray.empty))) := hS.cell
  clear hS
  by_cases hbig : (1048576 : Int) < (len : Int)
  · go_enter Try.func10, Try.ntmps10
    go_wp2
    go_ret
    exact ⟨⟨false, rfl⟩, rfl⟩
  go_enter Try.func10, Try.ntmps10
  go_wp2
  go_loop [5, 6] (fun z i => ∃ (k : Nat) (x : Int), k ≤ len ∧ i = .int .i64 k ∧ z = .int .i64 x) (fun _ i => len - (intOf i).toNat)
  case atStart => exact ⟨0, _, by omega, rfl, rfl⟩
  case round =>
    obtain ⟨k, x, hk, rfl, rfl⟩ := hrel
    by_cases hlt : k < len
    · obtain ⟨s, hs⟩ : ∃ s, s = ss.getD k ByteArray.empty := ⟨_, rfl⟩
      have hcl : w.cell? ⟨b, off + k, none⟩ = some (.string s) := by rw [hs]; exact HC.out k hlt
      clear hs
      go_wp2
      all_goals first
        | (go_ret; exact ⟨⟨_, rfl⟩, rfl⟩)
        | (go_round; (case rel => exact ⟨k + 1, _, by omega, by go_num, rfl⟩); (case measure => simp [intOf]; omega))
    · go_wp2
      all_goals (go_ret; exact ⟨⟨_, rfl⟩, rfl⟩)
theorem bytes_none (a : Option Addr) (cap : Nat) (p : ByteArray) (w : World) :
    Calls Try.prog 10 #[.slice a 0 cap, .string p] w fun e w' => SomeBool e ∧ w' = w := by
  go_enter Try.func10, Try.ntmps10
  go_wp2
  refine wp_loop_rounds 1 ?_
  rw [rounds_succ]
  go_wp2
  all_goals (go_ret; exact ⟨⟨_, rfl⟩, rfl⟩)
#print axioms bytes_some
end Go.Proofs.Qxb6601209a.CountWalk
