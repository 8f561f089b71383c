/-
  slashCountZZ, firstParts, WALKED.
-/
import Derived.Test.Qxb6601209aProg
import Derived.Test.Qxb6601209aPlain
import Derived.WalkKit
import Derived.Below
namespace Go.Proofs.Qxb6601209a.PartsWalk
open Go.RowKit Go.Proofs.Qxb6601209a.Plain
set_option linter.unusedSimpArgs false

theorem ret_int {k : IntKind} {a b : Int} (h : a = b) : Ending.returned (.int k a) = .returned (.int k b) := by rw [h]
theorem ret_bool {a b : Bool} (h : a = b) : Ending.returned (.bool a) = .returned (.bool b) := by rw [h]
theorem ret_string {a b : ByteArray} (h : a = b) : Ending.returned (.string a) = .returned (.string b) := by rw [h]

set_option maxRecDepth 100000 in
set_option maxHeartbeats 1000000 in
theorem count_any (s : ByteArray) (w : World) (hs : s.size ≤ 1048576) :
    Calls Try.prog 8 #[.string s] w fun e w' => e = .returned (.int .i64 (sc (bl s) : Nat)) ∧ w' = w := by
  go_enter Try.func8, Try.ntmps8
  go_wp2
  go_loop [3, 4] (fun n i => ∃ k g : Nat, k ≤ s.size ∧ g ≤ k ∧ i = .int .i64 k ∧ n = .int .i64 g ∧ Hid (scT s k = g)) (fun _ i => s.size - (intOf i).toNat)
  case atStart => exact ⟨0, 0, by omega, by omega, rfl, rfl, scT_zero s⟩
  case round =>
    obtain ⟨k, g, hk, hg, rfl, rfl, hrel⟩ := hrel
    by_cases hlt : k < s.size
    · by_cases h : ((s[k]'hlt).toNat : Int) = 47
      · have HG : Hid (scT s (k + 1) = g + 1) := by show _ = _; rw [scT_hit s k hlt h, hrel.out]
        have hb : (((s[k]'hlt).toNat : Int) == 47) = true := by rw [h]; rfl
        clear h
        go_wp2
        go_round
        case rel => exact ⟨k + 1, g + 1, by omega, by omega, by go_num, by go_num, HG⟩
        case measure => simp [intOf]; omega
      · have HG : Hid (scT s (k + 1) = g) := by show _ = _; rw [scT_miss s k hlt h, hrel.out]
        have hb : (((s[k]'hlt).toNat : Int) == 47) = false := by rw [beq_eq_false_iff_ne]; exact h
        clear h
        go_wp2
        go_round
        case rel => exact ⟨k + 1, g, by omega, by omega, by go_num, rfl, HG⟩
        case measure => simp [intOf]; omega
    · have HG : Hid (sc (bl s) = g) := by show _ = _; rw [← scT_all s k (by omega)]; exact hrel.out
      go_wp2
      go_ret
      exact ⟨ret_int (by rw [HG.out]), rfl⟩

/-- What firstParts answers at n, 1 or more. -/
def Ans (s : ByteArray) (n : Int) (e : Ending) : Prop :=
  (∃ (p : Nat) (r : ByteArray), e = .returned (.string r) ∧ p ≤ s.size ∧ r.size = p ∧ s.extract 0 p = r ∧ ((scT s p : Nat) : Int) = n - 1 ∧ n ≤ (sc (bl s) : Nat) + 1 ∧ (p = s.size ∨ ∃ h : p < s.size, ((s[p]'h).toNat : Int) = 47)) ∨
  (e = .returned (.string ByteArray.empty) ∧ ((sc (bl s) : Nat) : Int) + 1 < n)
theorem ans_cut {s : ByteArray} {n : Int} {k : Nat} (h : k < s.size) (hs : ((s[k]'h).toNat : Int) = 47) (hc : ((scT s k : Nat) : Int) = n - 1) : Ans s n (.returned (.string (s.extract 0 k))) := by
  refine .inl ⟨k, _, rfl, by omega, by simp; omega, rfl, hc, ?_, .inr ⟨h, hs⟩⟩
  have h1 := scT_hit s k h hs
  have h2 := scT_mono s (k + 1) s.size (by omega)
  rw [scT_all s s.size (Nat.le_refl _)] at h2
  omega
theorem extract_all (s : ByteArray) : s.extract 0 s.size = s := by
  simp
theorem ans_all {s : ByteArray} {n : Int} (hc : ((sc (bl s) : Nat) : Int) = n - 1) : Ans s n (.returned (.string s)) :=
  .inl ⟨s.size, s, rfl, Nat.le_refl _, rfl, extract_all s, by rw [scT_all s s.size (Nat.le_refl _)]; exact hc, by omega, .inl rfl⟩

set_option maxRecDepth 100000 in
set_option maxHeartbeats 1000000 in
theorem parts_pos (s : ByteArray) (n : Int) (w : World) (hs : s.size ≤ 1048576) (h1 : 1 ≤ n) (h2 : n ≤ 9223372036854775807) :
    Calls Try.prog 15 #[.string s, .int .i64 n] w fun e w' => Ans s n e ∧ w' = w := by
  go_enter Try.func15, Try.ntmps15
  go_wp2
  go_loop [1, 8] (fun m i => ∃ (k : Nat) (q : Int), k ≤ s.size ∧ i = .int .i64 k ∧ m = .int .i64 q ∧ 1 ≤ q ∧ q ≤ n ∧ Hid (((scT s k : Nat) : Int) = n - q)) (fun _ i => s.size - (intOf i).toNat)
  case atStart => exact ⟨0, n, by omega, rfl, rfl, h1, by omega, (by show _ = _; rw [scT_zero]; omega)⟩
  case round =>
    obtain ⟨k, q, hk, rfl, rfl, hq1, hq2, hrel⟩ := hrel
    by_cases hlt : k < s.size
    · by_cases h : ((s[k]'hlt).toNat : Int) = 47
      · have HE : Hid (((s[k]'hlt).toNat : Int) = 47) := h
        have hb : (((s[k]'hlt).toNat : Int) != 47) = false := by rw [h]; rfl
        clear h
        by_cases hz : q = 1
        · subst hz
          go_wp2
          go_ret
          exact ⟨ans_cut hlt HE.out (by rw [hrel.out]), rfl⟩
        · have HG : Hid (((scT s (k + 1) : Nat) : Int) = n - (q - 1)) := by
            show _ = _
            rw [scT_hit s k hlt HE.out]
            have := hrel.out
            omega
          go_wp2
          go_round
          case rel => exact ⟨k + 1, q - 1, by omega, by go_num, rfl, by omega, by omega, HG⟩
          case measure => simp [intOf]; omega
      · have HG : Hid (((scT s (k + 1) : Nat) : Int) = n - q) := by show _ = _; rw [scT_miss s k hlt h]; exact hrel.out
        have hb : (((s[k]'hlt).toNat : Int) != 47) = true := by simp [bne, h]
        clear h
        go_wp2
        go_round
        case rel => exact ⟨k + 1, q, by omega, by go_num, rfl, hq1, hq2, HG⟩
        case measure => simp [intOf]; omega
    · have HG : Hid (((sc (bl s) : Nat) : Int) = n - q) := by show _ = _; rw [← scT_all s k (by omega)]; exact hrel.out
      by_cases hz : q = 1
      · subst hz
        go_wp2
        go_ret
        exact ⟨ans_all HG.out, rfl⟩
      · go_wp2
        go_ret
        exact ⟨.inr ⟨rfl, by have := HG.out; omega⟩, rfl⟩
#print axioms parts_pos

/-- n below 1: it is counted down, past the least int perhaps, and comes neither to 0 nor to 1. -/
def Far (k : Nat) (q : Int) : Prop := (-9223372036854775808 ≤ q ∧ q ≤ 0) ∨ (4611686018427387904 + (1048576 - (k : Int)) ≤ q ∧ q ≤ 9223372036854775807)
theorem far_start {n : Int} (h1 : -9223372036854775808 ≤ n) (h2 : n ≤ 0) : Far 0 n := .inl ⟨h1, h2⟩
theorem far_next {k : Nat} {q : Int} (h : Far k q) : Far (k + 1) q := by
  unfold Far at *; omega
theorem wrap_least : wrap64 (-9223372036854775809) = 9223372036854775807 := by unfold wrap64; decide
theorem far_wrapped {k : Nat} : Far (k + 1) (wrap64 (-9223372036854775809)) := by
  rw [wrap_least]; unfold Far; omega

set_option maxRecDepth 100000 in
set_option maxHeartbeats 1000000 in
theorem parts_neg (s : ByteArray) (n : Int) (w : World) (hs : s.size ≤ 1048576) (h1 : -9223372036854775808 ≤ n) (h2 : n ≤ 0) :
    Calls Try.prog 15 #[.string s, .int .i64 n] w fun e w' => e = .returned (.string ByteArray.empty) ∧ w' = w := by
  have HN : Hid (-9223372036854775808 ≤ n) := h1
  clear h1
  go_enter Try.func15, Try.ntmps15
  go_wp2
  go_loop [1, 8] (fun m i => ∃ (k : Nat) (q : Int), k ≤ s.size ∧ i = .int .i64 k ∧ m = .int .i64 q ∧ Hid (Far k q)) (fun _ i => s.size - (intOf i).toNat)
  case atStart => exact ⟨0, n, by omega, rfl, rfl, far_start HN.out h2⟩
  case round =>
    obtain ⟨k, q, hk, rfl, rfl, hrel⟩ := hrel
    clear HN h2
    by_cases hlt : k < s.size
    · by_cases h : ((s[k]'hlt).toNat : Int) = 47
      · have hb : (((s[k]'hlt).toNat : Int) != 47) = false := by rw [h]; rfl
        clear h
        rcases (show q = -9223372036854775808 ∨ (-9223372036854775807 ≤ q ∧ q ≤ 0) ∨ (4611686018427387904 + (1048576 - (k : Int)) ≤ q ∧ q ≤ 9223372036854775807) by have := hrel.out; unfold Far at this; omega) with hq | ⟨hq, hq'⟩ | ⟨hq, hq'⟩
        · subst hq
          go_wp2
          · have hz : (wrap64 (-9223372036854775809) == 0) = true := by assumption
            rw [wrap_least] at hz
            exact absurd hz (by decide)
          · go_round
            case rel => exact ⟨k + 1, wrap64 (-9223372036854775809), by omega, by go_num, rfl, far_wrapped⟩
            case measure => simp [intOf]; omega
        · go_wp2
          go_round
          case rel => exact ⟨k + 1, q - 1, by omega, by go_num, rfl, .inl ⟨by omega, by omega⟩⟩
          case measure => simp [intOf]; omega
        · go_wp2
          go_round
          case rel => exact ⟨k + 1, q - 1, by omega, by go_num, rfl, .inr ⟨by omega, by omega⟩⟩
          case measure => simp [intOf]; omega
      · have hb : (((s[k]'hlt).toNat : Int) != 47) = true := by simp [bne, h]
        clear h
        go_wp2
        go_round
        case rel => exact ⟨k + 1, q, by omega, by go_num, rfl, far_next hrel.out⟩
        case measure => simp [intOf]; omega
    · have hne : (q == 1) = false := by rw [beq_eq_false_iff_ne]; have := hrel.out; unfold Far at this; omega
      go_wp2
      go_ret
      exact ⟨rfl, rfl⟩
#print axioms parts_neg
theorem zz_pos (s : ByteArray) (n : Int) (w : World) (hs : s.size ≤ 1048576) (h1 : 1 ≤ n) (h2 : n ≤ 9223372036854775807) :
    Calls Try.prog 7 #[.string s, .int .i64 n] w fun e w' => Ans s n e ∧ w' = w := by
  go_enter Try.func7, Try.ntmps7
  go_wp2_with fail
  refine (parts_pos s n _ hs h1 h2).mono ?_
  rintro e w' ⟨h, rfl⟩
  rcases h with ⟨p, r, rfl, a⟩ | ⟨rfl, a⟩
  · have HA : Hid (p ≤ s.size ∧ r.size = p ∧ s.extract 0 p = r ∧ ((scT s p : Nat) : Int) = n - 1 ∧ n ≤ (sc (bl s) : Nat) + 1 ∧ (p = s.size ∨ ∃ h : p < s.size, ((s[p]'h).toNat : Int) = 47)) := a
    clear a
    go_wp2
    go_ret
    exact ⟨.inl ⟨p, r, rfl, HA.out⟩, rfl⟩
  · have HA : Hid (((sc (bl s) : Nat) : Int) + 1 < n) := a
    clear a
    go_wp2
    go_ret
    exact ⟨.inr ⟨rfl, HA.out⟩, rfl⟩
theorem zz_neg (s : ByteArray) (n : Int) (w : World) (hs : s.size ≤ 1048576) (h1 : -9223372036854775808 ≤ n) (h2 : n ≤ 0) :
    Calls Try.prog 7 #[.string s, .int .i64 n] w fun e w' => e = .returned (.string ByteArray.empty) ∧ w' = w := by
  have HN : Hid (-9223372036854775808 ≤ n) := h1
  clear h1
  go_enter Try.func7, Try.ntmps7
  go_wp2_with (go_at_call 15; refine (parts_neg s n _ hs HN.out h2).mono ?_; rintro e w' ⟨rfl, rfl⟩)
  go_ret
  exact ⟨rfl, rfl⟩
end Go.Proofs.Qxb6601209a.PartsWalk
