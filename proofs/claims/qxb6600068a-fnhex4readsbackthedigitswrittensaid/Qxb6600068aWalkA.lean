import Derived.Test.Qxb6600068aProg
import Derived.Test.Qxb6600068aSteps
import Derived.WalkKit
import Derived.Below
namespace Go.Proofs.Qxb6600068a.NumWalk
open Go.RowKit Go.Proofs.Qxb6600068a.Plain

theorem ret_int {k : IntKind} {a b : Int} (h : a = b) : Ending.returned (.int k a) = .returned (.int k b) := by rw [h]
theorem ret_bool {a b : Bool} (h : a = b) : Ending.returned (.bool a) = .returned (.bool b) := by rw [h]

theorem isD_any (c : Int) (w : World) :
    Calls Try.prog 33 #[.int .u8 c] w fun e w' => e = .returned (.bool (isD c)) ∧ w' = w := by
  by_cases h1 : 48 ≤ c
  · by_cases h2 : c ≤ 57
    · go_enter Try.func33, Try.ntmps33
      go_wp2
      go_ret
      exact ⟨ret_bool (by simp [isD, h1, h2]), rfl⟩
    · go_enter Try.func33, Try.ntmps33
      go_wp2
      go_ret
      exact ⟨ret_bool (by simp [isD, h2]), rfl⟩
  · go_enter Try.func33, Try.ntmps33
    go_wp2
    go_ret
    exact ⟨ret_bool (by simp [isD]; omega), rfl⟩

/-- A row of bytes in memory: 'len' cells from ⟨b, off⟩ on. -/
structure Bytes (w : World) (b off len : Nat) (zs : List Int) : Prop where
  size : zs.length = len
  bound : len ≤ 4194304
  cell : ∀ j, j < len → w.cell? ⟨b, off + j, none⟩ = some (.int .u8 (zs.getD j 0))

set_option maxHeartbeats 400000 in
theorem digits_any (b off len cap i0 : Nat) (zs : List Int) (w : World) (hB : Bytes w b off len zs) (hi : i0 ≤ len) :
    Calls Try.prog 32 #[.slice (some ⟨b, off, none⟩) len cap, .int .i64 i0] w fun e w' => e = .returned (.int .i64 (dg zs i0 : Nat)) ∧ w' = w := by
  obtain ⟨hsz, hbd, hcell⟩ := hB
  have HS : Hid (zs.length = len) := hsz
  have HC : Hid (∀ j, j < len → w.cell? ⟨b, off + j, none⟩ = some (.int .u8 (zs.getD j 0))) := hcell
  clear hsz hcell
  go_enter Try.func32, Try.ntmps32
  go_wp2
  go_loop [1] (fun i => ∃ k : Nat, k ≤ len ∧ i = .int .i64 k ∧ Hid (k + dl (zs.drop k) = i0 + dl (zs.drop i0))) (fun i => len - (intOf i).toNat)
  case atStart => exact ⟨i0, hi, rfl, rfl⟩
  case round =>
    obtain ⟨k, hk, rfl, hrel⟩ := hrel
    by_cases hlt : k < len
    · obtain ⟨c, hc⟩ : ∃ c, c = zs.getD k 0 := ⟨_, rfl⟩
      have hcl : w.cell? ⟨b, off + k, none⟩ = some (.int .u8 c) := by rw [hc]; exact HC.out k hlt
      have Hc : Hid (c = zs.getD k 0) := hc
      clear hc
      by_cases hd : isD c = true
      · go_wp2_with (go_at_call 33; refine (isD_any _ _).mono ?_; rintro e w' ⟨rfl, rfl⟩)
        go_round
        case rel => exact ⟨k + 1, by omega, by go_num, (dl_hit zs k c Hc.out (by rw [HS.out]; exact hlt) hd).symm.trans hrel.out⟩
        case measure => simp [intOf]; omega
      · have hd' : isD c = false := by simpa using hd
        clear hd
        go_wp2_with (go_at_call 33; refine (isD_any _ _).mono ?_; rintro e w' ⟨rfl, rfl⟩)
        go_ret
        exact ⟨ret_int (by rw [show dg zs i0 = k from hrel.out.symm.trans (dl_miss zs k c Hc.out (by rw [HS.out]; exact hlt) hd')]), rfl⟩
    · go_wp2
      go_ret
      exact ⟨ret_int (by rw [show dg zs i0 = k from hrel.out.symm.trans (dl_end zs k (by rw [HS.out]; exact hlt))]), rfl⟩
#print axioms digits_any
end Go.Proofs.Qxb6600068a.NumWalk
