import Derived.Test.Qxb6601258aWalkA
namespace Go.Proofs.Qxb6601258a.TopicWalk
open Go.RowKit Go.Proofs.Qxb6601258a.Plain
set_option linter.unusedSimpArgs false

/-- The string's bytes as integers. -/
def bl (s : ByteArray) : List Int := s.data.toList.map fun b => (b.toNat : Int)
theorem bl_len (s : ByteArray) : (bl s).length = s.size := by
  unfold bl
  rw [List.length_map]
  rfl
theorem bl_at (s : ByteArray) (k : Nat) (h : k < s.size) : (bl s).take (k + 1) = (bl s).take k ++ [((s[k]'h).toNat : Int)] := by
  rw [List.take_succ_eq_append_getElem (by rw [bl_len]; exact h)]
  simp [bl]; rfl
/-- What both functions answer. -/
def tm (s : ByteArray) : Bool := allB (bl s) && decide (1 ≤ s.size) && decide (s.size ≤ 64)
theorem tm_long (s : ByteArray) (h : ¬ (1 ≤ s.size ∧ s.size ≤ 64)) : tm s = false := by
  unfold tm
  by_cases h1 : 1 ≤ s.size
  · have h2 : ¬ s.size ≤ 64 := fun h2 => h ⟨h1, h2⟩
    simp [h2]
  · simp [h1]
theorem tm_fit (s : ByteArray) (h1 : 1 ≤ s.size) (h2 : s.size ≤ 64) : tm s = allB (bl s) := by
  unfold tm; simp [h1, h2]
theorem all_take (s : ByteArray) (k : Nat) (h : ¬ k < s.size) : (bl s).take k = bl s := List.take_of_length_le (by rw [bl_len]; omega)
theorem all_false (s : ByteArray) (k : Nat) (h : k < s.size) (e : okB ((s[k]'h).toNat : Int) = false) : allB (bl s) = false := by
  have hs : bl s = (bl s).take (k + 1) ++ (bl s).drop (k + 1) := (List.take_append_drop _ _).symm
  rw [hs, allB_append, bl_at s k h, allB_snoc, e]
  simp

set_option maxRecDepth 100000 in
set_option maxHeartbeats 1000000 in
theorem model_any (s : ByteArray) (w : World) (hs : s.size ≤ 1048576) :
    Calls Try.prog 8 #[.string s] w fun e w' => e = .returned (.bool (tm s)) ∧ w' = w := by
  go_enter Try.func8, Try.ntmps8
  go_wp2
  go_loop [3, 4] (fun n i => ∃ k g : Nat, k ≤ s.size ∧ g ≤ k ∧ i = .int .i64 k ∧ n = .int .i64 g ∧ Hid (g = good ((bl s).take k))) (fun _ i => s.size - (intOf i).toNat)
  case atStart => exact ⟨0, 0, by omega, by omega, rfl, rfl, (by show _ = _; simp [good])⟩
  case round =>
    obtain ⟨k, g, hk, hg, rfl, rfl, hrel⟩ := hrel
    by_cases hlt : k < s.size
    · have HG : Hid (good ((bl s).take (k + 1)) = g + (if okB ((s[k]'hlt).toNat : Int) = true then 1 else 0)) := by
        show _ = _
        rw [bl_at s k hlt, good_snoc, ← hrel.out]
      cases hd : okB ((s[k]'hlt).toNat : Int) with
      | true =>
        go_wp2_with (go_at_call 12; refine (alpha_any _ _).mono ?_; rintro e w' ⟨rfl, rfl⟩)
        go_round
        case rel => exact ⟨k + 1, g + 1, by omega, by omega, by go_num, by go_num, (by show _ = _; rw [HG.out, hd]; rfl)⟩
        case measure => simp [intOf]; omega
      | false =>
        go_wp2_with (go_at_call 12; refine (alpha_any _ _).mono ?_; rintro e w' ⟨rfl, rfl⟩)
        go_round
        case rel => exact ⟨k + 1, g, by omega, by omega, by go_num, rfl, (by show _ = _; rw [HG.out, hd]; rfl)⟩
        case measure => simp [intOf]; omega
    · have hrel' : g = good (bl s) := by rw [hrel.out, all_take s k hlt]
      have HR : Hid (g = good (bl s)) := hrel'
      clear hrel hrel'
      have HA : Hid ((g = s.size) ↔ allB (bl s) = true) := by
        have := good_all (bl s)
        rw [← HR.out, bl_len] at this
        exact this
      by_cases h1 : g = s.size
      · have HT : Hid (allB (bl s) = true) := HA.out.1 h1
        subst h1
        by_cases h2 : 1 ≤ s.size
        · by_cases h3 : s.size ≤ 64
          · go_wp2
            go_ret
            exact ⟨ret_bool (by rw [tm_fit s h2 h3, HT.out]; simp; omega), rfl⟩
          · go_wp2
            go_ret
            exact ⟨ret_bool (by rw [tm_long s (by omega)]; simp; omega), rfl⟩
        · go_wp2
          go_ret
          exact ⟨ret_bool (by rw [tm_long s (by omega)]), rfl⟩
      · have HF : Hid (allB (bl s) = false) := by
          show _ = _
          cases hq : allB (bl s) with
          | false => rfl
          | true => exact absurd (HA.out.2 hq) h1
        have hb : ((g : Int) == (s.size : Int)) = false := by rw [beq_eq_false_iff_ne]; omega
        go_wp2
        go_ret
        exact ⟨ret_bool (by unfold tm; rw [HF.out]; rfl), rfl⟩
#print axioms model_any

theorem ok_of {c : Int} (h : (97 ≤ c ∧ c ≤ 122) ∨ (48 ≤ c ∧ c ≤ 57) ∨ c = 46 ∨ c = 95 ∨ c = 58 ∨ c = 45) : okB c = true := by
  simp only [okB, Bool.or_eq_true, decide_eq_true_eq]; omega
theorem not_ok {c : Int} (h : ¬ ((97 ≤ c ∧ c ≤ 122) ∨ (48 ≤ c ∧ c ≤ 57) ∨ c = 46 ∨ c = 95 ∨ c = 58 ∨ c = 45)) : okB c = false := by
  cases hq : okB c with
  | false => rfl
  | true => simp only [okB, Bool.or_eq_true, decide_eq_true_eq] at hq; omega

set_option maxRecDepth 100000 in
set_option maxHeartbeats 1000000 in
theorem topic_any (s : ByteArray) (w : World) (hs : s.size ≤ 1048576) :
    Calls Try.prog 11 #[.string s] w fun e w' => e = .returned (.bool (tm s)) ∧ w' = w := by
  by_cases h1 : 1 ≤ s.size
  · by_cases h2 : s.size ≤ 64
    · have HT : Hid (tm s = allB (bl s)) := tm_fit s h1 h2
      go_enter Try.func11, Try.ntmps11
      go_wp2
      go_loop [3] (fun i => ∃ k : Nat, k ≤ s.size ∧ i = .int .i64 k ∧ Hid (allB ((bl s).take k) = true)) (fun i => s.size - (intOf i).toNat)
      case atStart => exact ⟨0, by omega, rfl, rfl⟩
      case round =>
        obtain ⟨k, hk, rfl, hrel⟩ := hrel
        by_cases hlt : k < s.size
        · have HN : Hid (okB ((s[k]'hlt).toNat : Int) = false → tm s = false) := fun h => HT.out.trans (all_false s k hlt h)
          have HP : Hid (okB ((s[k]'hlt).toNat : Int) = true → allB ((bl s).take (k + 1)) = true) := fun h => by rw [bl_at s k hlt, allB_snoc, hrel.out, h]; rfl
          go_wp2
          all_goals first
            | (go_ret; exact ⟨ret_bool (HN.out (not_ok (by (try simp only [beq_iff_eq, beq_eq_false_iff_ne, ne_eq] at *); omega))).symm, rfl⟩)
            | (go_round; (case rel => exact ⟨k + 1, by omega, by go_num, HP.out (ok_of (by (try simp only [beq_iff_eq, beq_eq_false_iff_ne, ne_eq] at *); omega))⟩); (case measure => simp [intOf]; omega))
        · go_wp2
          go_ret
          exact ⟨ret_bool (by rw [HT.out]; have := hrel.out; rw [all_take s k hlt] at this; exact this.symm), rfl⟩
    · have HT : Hid (tm s = false) := tm_long s (by omega)
      go_enter Try.func11, Try.ntmps11
      go_wp2
      go_ret
      exact ⟨ret_bool HT.out.symm, rfl⟩
  · have HT : Hid (tm s = false) := tm_long s (by omega)
    go_enter Try.func11, Try.ntmps11
    go_wp2
    go_ret
    exact ⟨ret_bool HT.out.symm, rfl⟩
#print axioms topic_any
theorem zz_any (s : ByteArray) (w : World) (hs : s.size ≤ 1048576) :
    Calls Try.prog 7 #[.string s] w fun e w' => e = .returned (.bool (tm s)) ∧ w' = w := by
  go_enter Try.func7, Try.ntmps7
  go_wp2_with (go_at_call 11; refine (topic_any _ _ hs).mono ?_; rintro e w' ⟨rfl, rfl⟩)
  go_ret
  exact ⟨rfl, rfl⟩
end Go.Proofs.Qxb6601258a.TopicWalk
