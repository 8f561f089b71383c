import Derived.Test.Qxb6601258aProg
import Derived.Test.Qxb6601258aPlain
import Derived.WalkKit
import Derived.Below
namespace Go.Proofs.Qxb6601258a.TopicWalk
open Go.RowKit Go.Proofs.Qxb6601258a.Plain

theorem ret_int {k : IntKind} {a b : Int} (h : a = b) : Ending.returned (.int k a) = .returned (.int k b) := by rw [h]
theorem ret_bool {a b : Bool} (h : a = b) : Ending.returned (.bool a) = .returned (.bool b) := by rw [h]

abbrev S : ByteArray := { data := #[97, 98, 99, 100, 101, 102, 103, 104, 105, 106, 107, 108, 109, 110, 111, 112, 113, 114, 115, 116, 117, 118, 119, 120, 121, 122, 48, 49, 50, 51, 52, 53, 54, 55, 56, 57, 46, 95, 58, 45] }
theorem sizeS : S.size = 40 := by kernel_rfl
theorem tabF : ∀ k : Fin 40, ((S[k.val]'(by rw [sizeS]; exact k.isLt)).toNat : Int) = tab.getD k.val 0 := by decide +kernel
theorem tabS (k : Nat) (h : k < S.size) : ((S[k]'h).toNat : Int) = tab.getD k 0 := tabF ⟨k, by rw [sizeS] at h; exact h⟩
theorem hit {c : Int} {k : Nat} (hk : k < 40) (h : k < S.size) (e : (((S[k]'h).toNat : Int) == c) = true) : okB c = true := by
  rw [tabS k h, beq_iff_eq] at e
  rw [← tab_ok, ← e]
  have hl : k < tab.length := hk
  simp [List.getD, hl]
theorem miss {c : Int} {k : Nat} (hk : k < 40) (h : k < S.size) (e : (((S[k]'h).toNat : Int) == c) = false) (r : c ∉ tab.take k) : c ∉ tab.take (k + 1) := by
  rw [tabS k h, beq_eq_false_iff_ne] at e
  have hl : k < tab.length := hk
  rw [List.take_succ_eq_append_getElem hl]
  simp only [List.mem_append, List.mem_singleton, not_or]
  refine ⟨r, fun hc => e ?_⟩
  rw [hc]; simp [List.getD, hl]

set_option maxHeartbeats 400000 in
theorem alpha_any (c : Int) (w : World) :
    Calls Try.prog 12 #[.int .u8 c] w fun e w' => e = .returned (.bool (okB c)) ∧ w' = w := by
  go_enter Try.func12, Try.ntmps12
  go_wp2
  go_loop [3] (fun i => ∃ k : Nat, k ≤ 40 ∧ i = .int .i64 k ∧ Hid (c ∉ tab.take k)) (fun i => 40 - (intOf i).toNat)
  case atStart => exact ⟨0, by omega, rfl, (by show _ ∉ _; simp)⟩
  case round =>
    obtain ⟨k, hk, rfl, hrel⟩ := hrel
    by_cases hlt : k < 40
    · have hS : k < S.size := by rw [sizeS]; exact hlt
      have HS : Hid (k < S.size) := hS
      clear hS
      go_wp2
      · have e : (((S[k]'HS.out).toNat : Int) == c) = true := by assumption
        go_ret
        exact ⟨ret_bool (hit hlt HS.out e).symm, rfl⟩
      · have e : (((S[k]'HS.out).toNat : Int) == c) = false := by assumption
        go_round
        case rel => exact ⟨k + 1, by omega, by go_num, miss hlt HS.out e hrel.out⟩
        case measure => simp [intOf]; omega
    · go_wp2
      go_ret
      exact ⟨ret_bool (by
        have h : ¬ okB c = true := by rw [← tab_ok]; have := hrel.out; rwa [List.take_of_length_le (by simp [tab]; omega)] at this
        simp [h]), rfl⟩
end Go.Proofs.Qxb6601258a.TopicWalk
