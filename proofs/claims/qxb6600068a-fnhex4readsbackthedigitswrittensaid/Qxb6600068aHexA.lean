/-
  hex4, WALKED; the bit operations on int32's values that are not negative.
-/
import Derived.Test.Qxb6600068aHexPlain
import Derived.Test.Qxb6600068aWalkA
import Derived.Laws.BitsAllLaws
namespace Go.Proofs.Qxb6600068a.NumWalk
open Go.RowKit Go.Proofs.Qxb6600068a.Plain

theorem wrap_i32 (n : Int) (h0 : 0 ≤ n) (h1 : n < 2147483648) : IntKind.i32.wrap n = n := by
  simp [IntKind.wrap, IntKind.bits, IntKind.signed]; omega
theorem i32_or_nat (a b : Nat) (ha : a < 1048576) (hb : b < 1048576) : bits .or .i32 (a : Int) (b : Int) = ((a ||| b : Nat) : Int) := by
  have hx : a ||| b < 2 ^ 20 := Nat.or_lt_two_pow (by omega) (by omega)
  show IntKind.i32.wrap ((BitVec.ofInt 32 (a : Int) ||| BitVec.ofInt 32 (b : Int)).toNat : Int) = _
  rw [BitVec.toNat_or, ofInt_u32 a (by omega), ofInt_u32 b (by omega)]
  exact wrap_i32 _ (by omega) (by omega)
theorem i32_and_nat (a b : Nat) (ha : a < 1048576) (hb : b < 1048576) : bits .and .i32 (a : Int) (b : Int) = ((a &&& b : Nat) : Int) := by
  have hx : a &&& b < 2 ^ 20 := Nat.and_lt_two_pow _ (by omega)
  show IntKind.i32.wrap ((BitVec.ofInt 32 (a : Int) &&& BitVec.ofInt 32 (b : Int)).toNat : Int) = _
  rw [BitVec.toNat_and, ofInt_u32 a (by omega), ofInt_u32 b (by omega)]
  exact wrap_i32 _ (by omega) (by omega)
/-- 'x<<4 | y'. -/
theorem i32_join (x y : Int) (hx0 : 0 ≤ x) (hx1 : x < 4096) (hy0 : 0 ≤ y) (hy1 : y ≤ 15) : bits .or .i32 (x * 16) y = x * 16 + y := by
  obtain ⟨X, rfl⟩ := Int.eq_ofNat_of_zero_le hx0
  obtain ⟨Y, rfl⟩ := Int.eq_ofNat_of_zero_le hy0
  have e : ((X : Int) * 16) = ((X * 16 : Nat) : Int) := by omega
  rw [e, i32_or_nat (X * 16) Y (by omega) (by omega), nat_join 4 (X * 16) Y (by omega) (by omega)]
  omega
/-- 'x & 0xF'. -/
theorem i32_low (x : Int) (hx0 : 0 ≤ x) (hx1 : x < 1048576) : bits .and .i32 x 15 = x % 16 := by
  obtain ⟨X, rfl⟩ := Int.eq_ofNat_of_zero_le hx0
  have := i32_and_nat X 15 (by omega) (by omega)
  rw [nat_mask4] at this
  rw [show (15 : Int) = ((15 : Nat) : Int) from rfl, this]
  omega

theorem step_val {zs : List Int} {k : Nat} {V c y : Int} (HV : vl zs k = V) (Hc : c = zs.getD k 0) (h0 : 0 ≤ V) (h1 : V < 4096) (y0 : 0 ≤ y) (y1 : y ≤ 15) (hy : hx c = y) : Value.int .i32 (bits .or .i32 (V * 16) y) = .int .i32 (vl zs (k + 1)) := by
  rw [i32_join V y h0 h1 y0 y1]
  simp only [vl, HV, ← Hc, hy]
set_option maxRecDepth 100000 in
set_option maxHeartbeats 1000000 in
theorem hex_any (b off len cap : Nat) (zs : List Int) (w : World) (hB : Bytes w b off len zs) (hl : 4 ≤ len) (hc : len ≤ cap) (hh : ∀ j, j < 4 → isHexB (zs.getD j 0) = true) :
    Calls Try.prog 30 #[.slice (some ⟨b, off, none⟩) len cap] w fun e w' => e = .returned (.int .i32 (vl zs 4)) ∧ w' = w := by
  have HC : Hid (∀ j, j < len → w.cell? ⟨b, off + j, none⟩ = some (.int .u8 (zs.getD j 0))) := hB.cell
  have HH : Hid (∀ j, j < 4 → isHexB (zs.getD j 0) = true) := hh
  clear hB hh
  go_enter Try.func30, Try.ntmps30
  go_wp2
  go_loop [3, 9] (fun r i => ∃ k : Nat, k ≤ 4 ∧ i = .int .i64 k ∧ r = .int .i32 (vl zs k)) (fun _ i => 4 - (intOf i).toNat)
  case atStart => exact ⟨0, by omega, rfl, rfl⟩
  case round =>
    obtain ⟨k, hk, rfl, rfl⟩ := hrel
    have hv := vl_range zs k hk HH.out
    by_cases hlt : k < 4
    · obtain ⟨c, hc⟩ : ∃ c, c = zs.getD k 0 := ⟨_, rfl⟩
      have hcl : w.cell? ⟨b, off + k, none⟩ = some (.int .u8 c) := by rw [hc]; exact HC.out k (by omega)
      have hx := (hex_iff _).1 (HH.out k hlt)
      rw [← hc] at hx
      have Hc : Hid (c = zs.getD k 0) := hc
      clear hc
      have hv2 : vl zs k < 4096 := by
        have : (16 : Int) ^ k ≤ 16 ^ 3 := by
          rcases (show k = 0 ∨ k = 1 ∨ k = 2 ∨ k = 3 by omega) with rfl | rfl | rfl | rfl <;> decide
        omega
      have hv1 := hv.1
      clear hv
      generalize hV : vl zs k = V at hv1 hv2
      have HV : Hid (vl zs k = V) := hV
      clear hV
      by_cases h1 : c ≤ 57
      · have h2 : 48 ≤ c := by omega
        clear hx
        go_wp2
        go_round
        case rel => exact ⟨k + 1, by omega, by go_num, step_val HV.out Hc.out hv1 hv2 (by omega) (by omega) (by unfold hx; rw [if_pos h1])⟩
        case measure => simp [intOf]; omega
      · by_cases h3 : c ≤ 70
        · have h2 : 65 ≤ c := by omega
          clear hx
          go_wp2
          go_round
          case rel => exact ⟨k + 1, by omega, by go_num, step_val HV.out Hc.out hv1 hv2 (by omega) (by omega) (by unfold hx; rw [if_neg h1, if_pos h3])⟩
          case measure => simp [intOf]; omega
        · have h2 : 97 ≤ c := by omega
          have h4 : c ≤ 102 := by omega
          clear hx
          go_wp2
          go_round
          case rel => exact ⟨k + 1, by omega, by go_num, step_val HV.out Hc.out hv1 hv2 (by omega) (by omega) (by unfold hx; rw [if_neg h1, if_neg h3])⟩
          case measure => simp [intOf]; omega
    · obtain rfl : k = 4 := by omega
      clear hv
      go_wp2
      go_ret
      exact ⟨rfl, rfl⟩
theorem zzhex_any (b off len cap : Nat) (zs : List Int) (w : World) (hB : Bytes w b off len zs) (hl : 4 ≤ len) (hc : len ≤ cap) (hh : ∀ j, j < 4 → isHexB (zs.getD j 0) = true) :
    Calls Try.prog 19 #[.slice (some ⟨b, off, none⟩) len cap] w fun e w' => e = .returned (.int .i32 (vl zs 4)) ∧ w' = w := by
  have HB : Hid (Bytes w b off len zs) := hB
  have HH : Hid (∀ j, j < 4 → isHexB (zs.getD j 0) = true) := hh
  clear hB hh
  go_enter Try.func19, Try.ntmps19
  go_wp2_with (go_at_call 30; refine (hex_any _ _ _ _ zs _ HB.out hl hc HH.out).mono ?_; rintro e w' ⟨rfl, rfl⟩)
  go_ret
  exact ⟨rfl, rfl⟩

theorem digit_any (d : Int) (u : Bool) (h0 : 0 ≤ d) (h1 : d ≤ 15) (w : World) :
    Calls Try.prog 18 #[.int .u8 d, .bool u] w fun e w' => e = .returned (.int .u8 (hd d u)) ∧ w' = w := by
  by_cases h : d < 10
  · go_enter Try.func18, Try.ntmps18
    go_wp2
    go_ret
    exact ⟨ret_int (by unfold hd; rw [if_pos h]), rfl⟩
  · cases u
    · go_enter Try.func18, Try.ntmps18
      go_wp2
      go_ret
      exact ⟨ret_int (by unfold hd; rw [if_neg (by omega), if_neg (by simp)]), rfl⟩
    · go_enter Try.func18, Try.ntmps18
      go_wp2
      go_ret
      exact ⟨ret_int (by unfold hd; rw [if_neg (by omega), if_pos rfl]), rfl⟩
theorem lower_any (c : Int) (h0 : 0 ≤ c) (h1 : c ≤ 255) (w : World) :
    Calls Try.prog 22 #[.int .u8 c] w fun e w' => e = .returned (.int .u8 (lower c)) ∧ w' = w := by
  by_cases h2 : 65 ≤ c
  · by_cases h3 : c ≤ 70
    · go_enter Try.func22, Try.ntmps22
      go_wp2
      go_ret
      exact ⟨ret_int (by unfold lower; rw [if_pos ⟨h2, h3⟩]), rfl⟩
    · go_enter Try.func22, Try.ntmps22
      go_wp2
      go_ret
      exact ⟨ret_int (by unfold lower; rw [if_neg (by omega)]), rfl⟩
  · go_enter Try.func22, Try.ntmps22
    go_wp2
    go_ret
    exact ⟨ret_int (by unfold lower; rw [if_neg (by omega)]), rfl⟩
theorem ishex_any (c : Int) (w : World) :
    Calls Try.prog 21 #[.int .u8 c] w fun e w' => e = .returned (.bool (isHexB c)) ∧ w' = w := by
  have key : ∀ x : Bool, (x = true ↔ ((48 ≤ c ∧ c ≤ 57) ∨ (97 ≤ c ∧ c ≤ 102) ∨ (65 ≤ c ∧ c ≤ 70))) → x = isHexB c := by
    intro x h
    rw [← hex_iff] at h
    cases x <;> cases hq : isHexB c <;> simp_all
  have HK : Hid (∀ x : Bool, (x = true ↔ ((48 ≤ c ∧ c ≤ 57) ∨ (97 ≤ c ∧ c ≤ 102) ∨ (65 ≤ c ∧ c ≤ 70))) → x = isHexB c) := key
  clear key
  rcases (show c < 48 ∨ (48 ≤ c ∧ c ≤ 57) ∨ (57 < c ∧ c < 65) ∨ (65 ≤ c ∧ c ≤ 70) ∨ (70 < c ∧ c < 97) ∨ (97 ≤ c ∧ c ≤ 102) ∨ 102 < c by omega) with h | ⟨h, h'⟩ | ⟨h, h'⟩ | ⟨h, h'⟩ | ⟨h, h'⟩ | ⟨h, h'⟩ | h
  all_goals
    go_enter Try.func21, Try.ntmps21
    go_wp2
  all_goals
    go_ret
    exact ⟨ret_bool (HK.out _ (by simp; omega)), rfl⟩
#print axioms hex_any
end Go.Proofs.Qxb6600068a.NumWalk
