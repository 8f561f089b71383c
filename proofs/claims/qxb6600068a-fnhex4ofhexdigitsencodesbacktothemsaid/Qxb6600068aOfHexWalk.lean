/-
  THE WALK OF 'FnHex4OfHexDigitsEncodesBackToThem'.
-/
import Derived.WalkKit
import Derived.Below
import Derived.Test.Qxb6600068aZz
import Derived.Test.Qxb6600068aHexA
import Derived.Deep.QuietTactic
import Derived.BigQuiet
import Derived.WalkSmall
namespace Go.Proofs.Qxb6600068a.fnHex4OfHexDigitsEncodesBackToThem
open Go.RowKit
open Go.Proofs.Qxb6600068a.NumWalk Go.Proofs.Qxb6600068a.Plain
set_option linter.unusedVariables false

def IsRow (k : IntKind) (w : World) (a : Option Addr) (len cap : Nat) (zs : List Int) : Prop :=
  (a = none ∧ len = 0 ∧ cap = 0 ∧ zs = []) ∨
  ∃ x, a = some x ∧ len ≤ cap ∧ cap ≤ maxLen ∧ zs.length = cap ∧ (∀ i, i < zs.length → w.cell? (x.add i) = some (.int k (zs.getD i 0))) ∧ ∀ n ∈ zs, (Lit.int k n).wf = true

theorem addP (b off i : Nat) : (⟨b, off, none⟩ : Addr).add i = ⟨b, off + i, none⟩ := by
  unfold Addr.add
  split <;> simp_all
theorem vl4 (zs : List Int) (a b c d : Int) (ha : hx (zs.getD 0 0) = a) (hb : hx (zs.getD 1 0) = b) (hc : hx (zs.getD 2 0) = c) (hd : hx (zs.getD 3 0) = d) : vl zs 4 = a * 4096 + b * 256 + c * 16 + d := by
  simp only [vl, ha, hb, hc, hd]; omega

theorem own_drewN {w : World} {g : Nat} {zs : List Int} (h : Own w g zs) (n : Nat) : Own (w.drewN n) g zs := h
/-- Digit k of a number of four. -/
def dgt (V : Int) (k : Nat) : Int := if k = 0 then V / 4096 % 16 else if k = 1 then V / 256 % 16 else if k = 2 then V / 16 % 16 else V % 16
theorem dgt_vl (zs : List Int) (k : Nat) (hk : k < 4) (hh : ∀ j, j < 4 → isHexB (zs.getD j 0) = true) : dgt (vl zs 4) k = hx (zs.getD k 0) := by
  have h0 := hx_range _ (hh 0 (by omega))
  have h1 := hx_range _ (hh 1 (by omega))
  have h2 := hx_range _ (hh 2 (by omega))
  have h3 := hx_range _ (hh 3 (by omega))
  have e := vl4 zs _ _ _ _ rfl rfl rfl rfl
  rcases (show k = 0 ∨ k = 1 ∨ k = 2 ∨ k = 3 by omega) with rfl | rfl | rfl | rfl
  all_goals
    unfold dgt
    simp
    simp at e h0 h1 h2 h3
    omega
theorem bytes_ok (a : Option Addr) (len cap : Nat) (w : World) (h : len ≤ 1048576) : Calls Try.prog 20 #[.slice a len cap] w fun e w' => e = .returned (.bool true) ∧ w' = w := by
  go_enter Try.func20, Try.ntmps20
  go_wp2
  go_ret
  exact ⟨rfl, rfl⟩

set_option maxRecDepth 100000 in
set_option maxHeartbeats 2000000 in
theorem deep (b off len cap : Nat) (ys : List Int) (w : World) (h4 : 4 ≤ len) (hl : len ≤ 1048576) (HY : Hid (ys.length = len)) (HC : Hid (∀ i, i < len → w.cell? ⟨b, off + i, none⟩ = some (.int .u8 (ys.getD i 0)))) :
    Calls Try.prog 7 #[.slice (some ⟨b, off, none⟩) len cap] w fun e w' => e = .returned (.bool true) ∧ Below w.heap.size w w' := by
  go_enter Try.func7, Try.ntmps7
  go_wp2_with (go_at_call 20; refine (bytes_ok _ _ _ _ hl).mono ?_; rintro e w ⟨rfl, rfl⟩)
  go_loop [3] (fun i => ∃ k : Nat, k ≤ 4 ∧ i = .int .i64 k ∧ Hid (∀ j, j < k → isHexB (ys.getD j 0) = true)) (fun i => 4 - (intOf i).toNat)
  case atStart => exact ⟨0, by omega, rfl, fun j hj => absurd hj (by omega)⟩
  case round =>
    obtain ⟨k, hk, rfl, hrel⟩ := hrel
    by_cases hlt : k < 4
    · obtain ⟨c, hc⟩ : ∃ c, c = ys.getD k 0 := ⟨_, rfl⟩
      have hcl : w.cell? ⟨b, off + k, none⟩ = some (.int .u8 c) := by rw [hc]; exact HC.out k (by omega)
      have Hc : Hid (c = ys.getD k 0) := hc
      clear hc
      have hlk : (k : Int) < (len : Int) := by omega
      cases hd : isHexB c with
      | true =>
        go_wp2_with (go_at_call 21; refine (ishex_any _ _).mono ?_; rintro e w ⟨rfl, rfl⟩)
        go_round
        case rel =>
          refine ⟨k + 1, by omega, by go_num, fun j hj => ?_⟩
          by_cases hjk : j < k
          · exact hrel.out j hjk
          · obtain rfl : j = k := by omega
            rw [← Hc.out]; exact hd
        case measure => simp [intOf]; omega
      | false =>
        go_wp2_with (go_at_call 21; refine (ishex_any _ _).mono ?_; rintro e w ⟨rfl, rfl⟩)
        go_ret
        exact ⟨rfl, Below.refl _ _⟩
    · obtain rfl : k = 4 := by omega
      have HH : Hid (∀ j, j < 4 → isHexB (ys.getD j 0) = true) := hrel
      clear hrel
      have HC' : Hid (∀ i, i < len → w.cell? ((⟨b, off, none⟩ : Addr).add i) = some (.int .u8 (ys.getD i 0))) := fun i hi => by rw [addP]; exact HC.out i hi
      obtain ⟨V, hV⟩ : ∃ V, V = vl ys 4 := ⟨_, rfl⟩
      have hr := vl_range ys 4 (by omega) HH.out
      rw [← hV] at hr
      have hV0 := hr.1
      have hV1 : V < 65536 := by have := hr.2; omega
      clear hr
      have HV : Hid (V = vl ys 4) := hV
      clear hV
      go_wp2_with fail
      refine (clone_some _ len cap ys _ (by omega) HY.out HC'.out).mono ?_
      rintro e w1 ⟨rfl, hO, hb⟩
      go_wp2_with fail
      refine (zzhex_any _ _ _ _ ys _ (hO.bytesAll HY.out (by omega)) h4 (by omega) HH.out).mono ?_
      rintro e w1 ⟨rfl, rfl⟩
      rw [← HV.out]
      go_wp2
      go_loopw [5] (fun i wr => ∃ k : Nat, k ≤ 4 ∧ i = .int .i64 k ∧ Own wr w.heap.size ys ∧ Below w.heap.size w wr) (fun i _ => 4 - (intOf i).toNat)
      case atStart => exact ⟨0, by omega, rfl, hO, hb⟩
      case round =>
        clear hO hb
        obtain ⟨k, hk, rfl, hO, hb⟩ := hrel
        by_cases hlt : k < 4
        · obtain ⟨c, hc⟩ : ∃ c, c = ys.getD k 0 := ⟨_, rfl⟩
          have hcl : wr.cell? ⟨w.heap.size, k, none⟩ = some (.int .u8 c) := by rw [hc]; exact hO.cell k (by rw [HY.out]; omega)
          have Hc : Hid (c = ys.getD k 0) := hc
          clear hc
          have HO := hO
          clear hO
          have hlk : (k : Int) < (len : Int) := by omega
          have hcx : isHexB c = true := by rw [Hc.out]; exact HH.out k hlt
          have hch := (hex_iff c).1 hcx
          have hc0 : 0 ≤ c := by omega
          have hc1 : c ≤ 255 := by omega
          have hdr := hx_range c hcx
          have HL : hd (hx c) false = lower c := hd_hx c hcx
          have HD : Hid (dgt V k = hx c) := by
            show _ = _
            rw [HV.out, Hc.out]; exact dgt_vl ys k hlt HH.out
          clear hch hcx
          generalize hx c = D at hdr HL HD
          have hD0 := hdr.1
          have hD1 := hdr.2
          clear hdr
          rcases (show k = 0 ∨ k = 1 ∨ k = 2 ∨ k = 3 by omega) with rfl | rfl | rfl | rfl
          · have hD : bits BinOp.and IntKind.i32 (V / 4096) 15 % 256 = D := by
              rw [← HD.out, i32_low _ (by omega) (by omega)]; unfold dgt; omega
            go_wp2
            go_quiet ((first | (go_at_call 18; exact Calls.quiet_of_same (digit_any _ _ hD0 hD1 _)) | (go_at_call 22; exact Calls.quiet_of_same (lower_any _ hc0 hc1 _))))
            go_wp2
            go_roundw
            case rel => exact ⟨1, by omega, by go_num, own_drewN HO _, below_drewN hb _⟩
            case measure => simp [intOf]
          · have hD : bits BinOp.and IntKind.i32 (V / 256) 15 % 256 = D := by
              rw [← HD.out, i32_low _ (by omega) (by omega)]; unfold dgt; omega
            go_wp2
            go_quiet ((first | (go_at_call 18; exact Calls.quiet_of_same (digit_any _ _ hD0 hD1 _)) | (go_at_call 22; exact Calls.quiet_of_same (lower_any _ hc0 hc1 _))))
            go_wp2
            go_roundw
            case rel => exact ⟨2, by omega, by go_num, own_drewN HO _, below_drewN hb _⟩
            case measure => simp [intOf]
          · have hD : bits BinOp.and IntKind.i32 (V / 16) 15 % 256 = D := by
              rw [← HD.out, i32_low _ (by omega) (by omega)]; unfold dgt; omega
            go_wp2
            go_quiet ((first | (go_at_call 18; exact Calls.quiet_of_same (digit_any _ _ hD0 hD1 _)) | (go_at_call 22; exact Calls.quiet_of_same (lower_any _ hc0 hc1 _))))
            go_wp2
            go_roundw
            case rel => exact ⟨3, by omega, by go_num, own_drewN HO _, below_drewN hb _⟩
            case measure => simp [intOf]
          · have hD : bits BinOp.and IntKind.i32 V 15 % 256 = D := by
              rw [← HD.out, i32_low _ (by omega) (by omega)]; unfold dgt; omega
            go_wp2
            go_quiet ((first | (go_at_call 18; exact Calls.quiet_of_same (digit_any _ _ hD0 hD1 _)) | (go_at_call 22; exact Calls.quiet_of_same (lower_any _ hc0 hc1 _))))
            go_wp2
            go_roundw
            case rel => exact ⟨4, by omega, by go_num, own_drewN HO _, below_drewN hb _⟩
            case measure => simp [intOf]
        · obtain rfl : k = 4 := by omega
          go_wp2
          go_ret
          exact ⟨rfl, hb⟩

theorem walk (a0 : Option Addr) (len0 cap0 : Nat) (z0 : List Int) (w : World) (w0 : IsRow .u8 w a0 len0 cap0 z0) :
    Calls Try.prog 7 #[.slice a0 len0 cap0] w fun e w' => e = .returned (.bool true) ∧ Below w.heap.size w w' := by
  by_cases hbig : (1048576 : Int) < (len0 : Int)
  · clear w0
    go_enter Try.func7, Try.ntmps7
    go_wp2
    go_ret
    exact ⟨rfl, Below.refl _ _⟩
  by_cases h4 : (len0 : Int) < 4
  · clear w0
    go_enter Try.func7, Try.ntmps7
    go_wp2
    go_ret
    exact ⟨rfl, Below.refl _ _⟩
  rcases w0 with ⟨_, h0, _, _⟩ | ⟨x, rfl, hlc, _, hz, hc, _⟩
  · omega
  have hcell := take_cell hz hlc hc
  obtain ⟨b, off, spot⟩ := x
  have hspot : spot = none := by simpa [Addr.add] using World.cell?_spot (hcell 0 (by omega))
  subst hspot
  exact deep b off len0 cap0 (z0.take len0) w (by omega) (by omega) (NumWalk.take_len hz hlc) (fun i hi => by rw [← addP]; exact hcell i hi)
#print axioms walk
end Go.Proofs.Qxb6600068a.fnHex4OfHexDigitsEncodesBackToThem
