/-
  THE AUTOMATON, WALKED.
-/
import Derived.Test.Qxb6600068aWalkA
namespace Go.Proofs.Qxb6600068a.NumWalk
open Go.RowKit Go.Proofs.Qxb6600068a.Plain
set_option linter.unusedSimpArgs false

theorem s0 (c : Int) : stp 0 c = if c = 45 then 1 else if c = 48 then 2 else if 48 ≤ c ∧ c ≤ 57 then 3 else -1 := by simp [stp, isD]
set_option maxRecDepth 100000 in
set_option maxHeartbeats 2000000 in
theorem step0 (c : Int) (w : World) :
    Calls Try.prog 29 #[.int .i64 0, .int .u8 c] w fun e w' => e = .returned (.int .i64 (stp 0 c)) ∧ w' = w := by
  rw [s0 c]
  go_enter Try.func29, Try.ntmps29
  go_wp2
  all_goals go_ret
  all_goals refine ⟨ret_int ?_, rfl⟩
  all_goals (try simp only [beq_iff_eq, beq_eq_false_iff_ne, ne_eq] at *)
  all_goals repeat' split
  all_goals omega
theorem s1 (c : Int) : stp 1 c = if c = 48 then 2 else if 48 ≤ c ∧ c ≤ 57 then 3 else -1 := by simp [stp, isD]
set_option maxRecDepth 100000 in
set_option maxHeartbeats 2000000 in
theorem step1 (c : Int) (w : World) :
    Calls Try.prog 29 #[.int .i64 1, .int .u8 c] w fun e w' => e = .returned (.int .i64 (stp 1 c)) ∧ w' = w := by
  rw [s1 c]
  go_enter Try.func29, Try.ntmps29
  go_wp2
  all_goals go_ret
  all_goals refine ⟨ret_int ?_, rfl⟩
  all_goals (try simp only [beq_iff_eq, beq_eq_false_iff_ne, ne_eq] at *)
  all_goals repeat' split
  all_goals omega
theorem s2 (c : Int) : stp 2 c = if c = 46 then 4 else if c = 101 ∨ c = 69 then 6 else -1 := by simp [stp]
set_option maxRecDepth 100000 in
set_option maxHeartbeats 2000000 in
theorem step2 (c : Int) (w : World) :
    Calls Try.prog 29 #[.int .i64 2, .int .u8 c] w fun e w' => e = .returned (.int .i64 (stp 2 c)) ∧ w' = w := by
  rw [s2 c]
  go_enter Try.func29, Try.ntmps29
  go_wp2
  all_goals go_ret
  all_goals refine ⟨ret_int ?_, rfl⟩
  all_goals (try simp only [beq_iff_eq, beq_eq_false_iff_ne, ne_eq] at *)
  all_goals repeat' split
  all_goals omega
theorem s3 (c : Int) : stp 3 c = if 48 ≤ c ∧ c ≤ 57 then 3 else if c = 46 then 4 else if c = 101 ∨ c = 69 then 6 else -1 := by simp [stp, isD]
set_option maxRecDepth 100000 in
set_option maxHeartbeats 2000000 in
theorem step3 (c : Int) (w : World) :
    Calls Try.prog 29 #[.int .i64 3, .int .u8 c] w fun e w' => e = .returned (.int .i64 (stp 3 c)) ∧ w' = w := by
  rw [s3 c]
  go_enter Try.func29, Try.ntmps29
  go_wp2
  all_goals go_ret
  all_goals refine ⟨ret_int ?_, rfl⟩
  all_goals (try simp only [beq_iff_eq, beq_eq_false_iff_ne, ne_eq] at *)
  all_goals repeat' split
  all_goals omega
theorem s4 (c : Int) : stp 4 c = if 48 ≤ c ∧ c ≤ 57 then 5 else -1 := by simp [stp, isD]
set_option maxRecDepth 100000 in
set_option maxHeartbeats 2000000 in
theorem step4 (c : Int) (w : World) :
    Calls Try.prog 29 #[.int .i64 4, .int .u8 c] w fun e w' => e = .returned (.int .i64 (stp 4 c)) ∧ w' = w := by
  rw [s4 c]
  go_enter Try.func29, Try.ntmps29
  go_wp2
  all_goals go_ret
  all_goals refine ⟨ret_int ?_, rfl⟩
  all_goals (try simp only [beq_iff_eq, beq_eq_false_iff_ne, ne_eq] at *)
  all_goals repeat' split
  all_goals omega
theorem s5 (c : Int) : stp 5 c = if 48 ≤ c ∧ c ≤ 57 then 5 else if c = 101 ∨ c = 69 then 6 else -1 := by simp [stp, isD]
set_option maxRecDepth 100000 in
set_option maxHeartbeats 2000000 in
theorem step5 (c : Int) (w : World) :
    Calls Try.prog 29 #[.int .i64 5, .int .u8 c] w fun e w' => e = .returned (.int .i64 (stp 5 c)) ∧ w' = w := by
  rw [s5 c]
  go_enter Try.func29, Try.ntmps29
  go_wp2
  all_goals go_ret
  all_goals refine ⟨ret_int ?_, rfl⟩
  all_goals (try simp only [beq_iff_eq, beq_eq_false_iff_ne, ne_eq] at *)
  all_goals repeat' split
  all_goals omega
theorem s6 (c : Int) : stp 6 c = if c = 43 ∨ c = 45 then 7 else if 48 ≤ c ∧ c ≤ 57 then 8 else -1 := by simp [stp, isD]
set_option maxRecDepth 100000 in
set_option maxHeartbeats 2000000 in
theorem step6 (c : Int) (w : World) :
    Calls Try.prog 29 #[.int .i64 6, .int .u8 c] w fun e w' => e = .returned (.int .i64 (stp 6 c)) ∧ w' = w := by
  rw [s6 c]
  go_enter Try.func29, Try.ntmps29
  go_wp2
  all_goals go_ret
  all_goals refine ⟨ret_int ?_, rfl⟩
  all_goals (try simp only [beq_iff_eq, beq_eq_false_iff_ne, ne_eq] at *)
  all_goals repeat' split
  all_goals omega
theorem s7 (c : Int) : stp 7 c = if 48 ≤ c ∧ c ≤ 57 then 8 else -1 := by simp [stp, isD]
set_option maxRecDepth 100000 in
set_option maxHeartbeats 2000000 in
theorem step7 (c : Int) (w : World) :
    Calls Try.prog 29 #[.int .i64 7, .int .u8 c] w fun e w' => e = .returned (.int .i64 (stp 7 c)) ∧ w' = w := by
  rw [s7 c]
  go_enter Try.func29, Try.ntmps29
  go_wp2
  all_goals go_ret
  all_goals refine ⟨ret_int ?_, rfl⟩
  all_goals (try simp only [beq_iff_eq, beq_eq_false_iff_ne, ne_eq] at *)
  all_goals repeat' split
  all_goals omega
theorem s8 (c : Int) : stp 8 c = if 48 ≤ c ∧ c ≤ 57 then 8 else -1 := by simp [stp, isD]
set_option maxRecDepth 100000 in
set_option maxHeartbeats 2000000 in
theorem step8 (c : Int) (w : World) :
    Calls Try.prog 29 #[.int .i64 8, .int .u8 c] w fun e w' => e = .returned (.int .i64 (stp 8 c)) ∧ w' = w := by
  rw [s8 c]
  go_enter Try.func29, Try.ntmps29
  go_wp2
  all_goals go_ret
  all_goals refine ⟨ret_int ?_, rfl⟩
  all_goals (try simp only [beq_iff_eq, beq_eq_false_iff_ne, ne_eq] at *)
  all_goals repeat' split
  all_goals omega

theorem step_any (st c : Int) (h0 : 0 ≤ st) (h8 : st ≤ 8) (w : World) :
    Calls Try.prog 29 #[.int .i64 st, .int .u8 c] w fun e w' => e = .returned (.int .i64 (stp st c)) ∧ w' = w := by
  rcases (show st = 0 ∨ st = 1 ∨ st = 2 ∨ st = 3 ∨ st = 4 ∨ st = 5 ∨ st = 6 ∨ st = 7 ∨ st = 8 by omega) with rfl | rfl | rfl | rfl | rfl | rfl | rfl | rfl | rfl
  · exact step0 c w
  · exact step1 c w
  · exact step2 c w
  · exact step3 c w
  · exact step4 c w
  · exact step5 c w
  · exact step6 c w
  · exact step7 c w
  · exact step8 c w
theorem stp_range (st c : Int) : stp st c = -1 ∨ (0 ≤ stp st c ∧ stp st c ≤ 8) := by
  unfold stp
  repeat' split
  all_goals omega

theorem acc_yes {st : Int} (h : st = 2 ∨ st = 3 ∨ st = 5 ∨ st = 8) (x : Int) : (if accB st = true then x else -1) = x := by simp [accB, h]
theorem acc_no {st : Int} (h : ¬ (st = 2 ∨ st = 3 ∨ st = 5 ∨ st = 8)) (x : Int) : (if accB st = true then x else -1) = -1 := by simp [accB, h]

set_option maxRecDepth 100000 in
set_option maxHeartbeats 2000000 in
theorem auto_any (b off len cap i0 : Nat) (zs : List Int) (w : World) (hB : Bytes w b off len zs) (hi : i0 < len) :
    Calls Try.prog 14 #[.slice (some ⟨b, off, none⟩) len cap, .int .i64 i0] w fun e w' => e = .returned (.int .i64 (at' nN zs i0)) ∧ w' = w := by
  have hbd := hB.bound
  have HS : Hid (zs.length = len) := hB.size
  have HC : Hid (∀ j, j < len → w.cell? ⟨b, off + j, none⟩ = some (.int .u8 (zs.getD j 0))) := hB.cell
  clear hB
  go_enter Try.func14, Try.ntmps14
  go_wp2
  go_loop [5, 6] (fun s p => ∃ (st : Int) (k : Nat), 0 ≤ st ∧ st ≤ 8 ∧ k ≤ len ∧ s = .int .i64 st ∧ p = .int .i64 k ∧ Hid (at' (aut st) zs k = at' nN zs i0)) (fun _ p => len - (intOf p).toNat)
  case atStart => exact ⟨0, i0, by omega, by omega, by omega, rfl, rfl, at_aut zs i0⟩
  case round =>
    obtain ⟨st, k, h0, h8, hk, rfl, rfl, hrel⟩ := hrel
    by_cases hlt : k < len
    · obtain ⟨c, hc⟩ : ∃ c, c = zs.getD k 0 := ⟨_, rfl⟩
      have hcl : w.cell? ⟨b, off + k, none⟩ = some (.int .u8 c) := by rw [hc]; exact HC.out k hlt
      have Hc : Hid (c = zs.getD k 0) := hc
      clear hc
      have HL : Hid (k < zs.length) := by rw [HS.out]; exact hlt
      by_cases hs : stp st c = -1
      · have HX : Hid (at' nN zs i0 = if accB st = true then ((k : Nat) : Int) else -1) := hrel.out.symm.trans (A_stop HL.out Hc.out hs)
        clear hrel
        by_cases ha : st = 2 ∨ st = 3 ∨ st = 5 ∨ st = 8
        · rcases ha with rfl | rfl | rfl | rfl
          all_goals
            go_wp2_with (go_at_call 29; refine (step_any _ _ (by omega) (by omega) _).mono ?_; rintro e w' ⟨rfl, rfl⟩)
            go_ret
            exact ⟨ret_int (HX.out.trans (acc_yes (by omega) _)).symm, rfl⟩
        · have n2 : (st == 2) = false := by rw [beq_eq_false_iff_ne]; omega
          have n3 : (st == 3) = false := by rw [beq_eq_false_iff_ne]; omega
          have n5 : (st == 5) = false := by rw [beq_eq_false_iff_ne]; omega
          have n8 : (st == 8) = false := by rw [beq_eq_false_iff_ne]; omega
          have HA : Hid (¬ (st = 2 ∨ st = 3 ∨ st = 5 ∨ st = 8)) := ha
          clear ha
          go_wp2_with (go_at_call 29; refine (step_any _ _ (by omega) (by omega) _).mono ?_; rintro e w' ⟨rfl, rfl⟩)
          go_ret
          exact ⟨ret_int (HX.out.trans (acc_no HA.out _)).symm, rfl⟩
      · have hr := stp_range st c
        have hr1 : 0 ≤ stp st c := by omega
        have hr2 : stp st c ≤ 8 := by omega
        clear hr
        go_wp2_with (go_at_call 29; refine (step_any _ _ (by omega) (by omega) _).mono ?_; rintro e w' ⟨rfl, rfl⟩)
        go_round
        case rel => exact ⟨stp st c, k + 1, hr1, hr2, by omega, rfl, by go_num, (A_step HL.out Hc.out hs).symm.trans hrel.out⟩
        case measure => simp [intOf]; omega
    · have HX : Hid (at' nN zs i0 = if accB st = true then ((k : Nat) : Int) else -1) := hrel.out.symm.trans (A_end (by rw [HS.out]; exact hlt))
      clear hrel
      by_cases ha : st = 2 ∨ st = 3 ∨ st = 5 ∨ st = 8
      · rcases ha with rfl | rfl | rfl | rfl
        all_goals
          go_wp2
          go_ret
          exact ⟨ret_int (HX.out.trans (acc_yes (by omega) _)).symm, rfl⟩
      · have n2 : (st == 2) = false := by rw [beq_eq_false_iff_ne]; omega
        have n3 : (st == 3) = false := by rw [beq_eq_false_iff_ne]; omega
        have n5 : (st == 5) = false := by rw [beq_eq_false_iff_ne]; omega
        have n8 : (st == 8) = false := by rw [beq_eq_false_iff_ne]; omega
        have HA : Hid (¬ (st = 2 ∨ st = 3 ∨ st = 5 ∨ st = 8)) := ha
        clear ha
        go_wp2
        go_ret
        exact ⟨ret_int (HX.out.trans (acc_no HA.out _)).symm, rfl⟩
#print axioms auto_any
end Go.Proofs.Qxb6600068a.NumWalk
