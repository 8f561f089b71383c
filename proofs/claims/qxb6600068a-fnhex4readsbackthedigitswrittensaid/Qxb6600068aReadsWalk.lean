/-
  THE WALK OF 'FnHex4ReadsBackTheDigitsWritten'.
-/
import Derived.WalkKit
import Derived.Below
import Derived.Test.Qxb6600068aZz
import Derived.Test.Qxb6600068aHexA
import Derived.OpenShut
namespace Go.Proofs.Qxb6600068a.fnHex4ReadsBackTheDigitsWritten
open Go.RowKit
open Go.Proofs.Qxb6600068a.NumWalk Go.Proofs.Qxb6600068a.Plain
set_option linter.unusedVariables false

def IsRow (k : IntKind) (w : World) (a : Option Addr) (len cap : Nat) (zs : List Int) : Prop :=
  (a = none ∧ len = 0 ∧ cap = 0 ∧ zs = []) ∨
  ∃ x, a = some x ∧ len ≤ cap ∧ cap ≤ maxLen ∧ zs.length = cap ∧ (∀ i, i < zs.length → w.cell? (x.add i) = some (.int k (zs.getD i 0))) ∧ ∀ n ∈ zs, (Lit.int k n).wf = true

theorem clone_any (a : Option Addr) (len cap : Nat) (zs : List Int) (w : World) (h : IsRow .u8 w a len cap zs) (hl : len ≤ 4194304) :
    Calls Try.prog 12 #[.slice a len cap] w fun e w' => ∃ a', e = .returned (.slice a' len len) ∧ Below w.heap.size w w' ∧ Hid (0 < len → a' = some ⟨w.heap.size, 0, none⟩ ∧ Own w' w.heap.size (zs.take len)) := by
  rcases h with ⟨rfl, rfl, rfl, rfl⟩ | ⟨x, rfl, hlc, _, hz, hc, _⟩
  · refine (clone_nil w).mono ?_
    rintro e w' ⟨rfl, rfl⟩
    exact ⟨none, rfl, Below.refl _ _, fun h => absurd h (by omega)⟩
  · refine (clone_some x len cap (zs.take len) w hl (NumWalk.take_len hz hlc) (take_cell hz hlc hc)).mono ?_
    rintro e w' ⟨rfl, hO, hb⟩
    exact ⟨_, rfl, hb, fun _ => ⟨rfl, hO⟩⟩
theorem addP (b off i : Nat) : (⟨b, off, none⟩ : Addr).add i = ⟨b, off + i, none⟩ := by
  unfold Addr.add
  split <;> simp_all
theorem bytes_ok (v m : Int) (a : Option Addr) (len cap : Nat) (w : World) (h : len ≤ 1048576) : Calls Try.prog 17 #[.int .i32 v, .int .u8 m, .slice a len cap] w fun e w' => e = .returned (.bool true) ∧ w' = w := by
  go_enter Try.func17, Try.ntmps17
  go_wp2
  go_ret
  exact ⟨rfl, rfl⟩

/-- Digit k of a number of four. -/
def dgt (V : Int) (k : Nat) : Int := if k = 0 then V / 4096 % 16 else if k = 1 then V / 256 % 16 else if k = 2 then V / 16 % 16 else V % 16
theorem dgt_range (V : Int) (k : Nat) : 0 ≤ dgt V k ∧ dgt V k ≤ 15 := by
  unfold dgt
  repeat' split
  all_goals omega
/-- The first k bytes spell the first k digits. -/
def Spells (V : Int) (n k : Nat) (zs : List Int) : Prop := zs.length = n ∧ ∀ j, j < k → isHexB (zs.getD j 0) = true ∧ hx (zs.getD j 0) = dgt V j
theorem rel_step {V D : Int} {n k : Nat} {zs : List Int} (h : Spells V n k zs) (hk : k < n) (hD : dgt V k = D) (h0 : 0 ≤ D) (h1 : D ≤ 15) (u : Bool) : Hid (Spells V n (k + 1) (zs.set k (hd D u))) := by
  refine ⟨by rw [List.length_set]; exact h.1, fun j hj => ?_⟩
  by_cases e : j = k
  · subst e
    have hl : j < zs.length := by rw [h.1]; exact hk
    simp only [List.getD, List.getElem?_set_self hl, Option.getD_some]
    exact ⟨isHex_hd D u h0 h1, by rw [hx_hd D u h0 h1, hD]⟩
  · have := h.2 j (by omega)
    simp only [List.getD, List.getElem?_set_ne (Ne.symm e)] at this ⊢
    exact this
theorem spelt {V : Int} {n : Nat} {zs : List Int} (h : Spells V n 4 zs) (h0 : 0 ≤ V) (h1 : V ≤ 65535) : vl zs 4 = V := by
  have a := (h.2 0 (by omega)).2
  have b := (h.2 1 (by omega)).2
  have c := (h.2 2 (by omega)).2
  have d := (h.2 3 (by omega)).2
  simp only [vl, a, b, c, d, dgt]
  simp
  omega
theorem spells_splice {V : Int} {n m : Nat} {zs ts : List Int} (h : Spells V n 4 zs) (hm : ts.length = m) (hn : n = 4 + m) : Spells V n 4 (splice zs 4 ts) := by
  have hl : 4 + ts.length ≤ zs.length := by rw [h.1]; omega
  refine ⟨by rw [length_splice _ _ _ hl]; exact h.1, fun j hj => ?_⟩
  have e : (splice zs 4 ts).getD j 0 = zs.getD j 0 := by
    unfold splice
    simp only [List.getD]
    rw [List.getElem?_append_left (by simp; omega), List.getElem?_take_of_lt hj]
  rw [e]
  exact h.2 j hj

set_option maxRecDepth 100000 in
set_option maxHeartbeats 2000000 in
theorem deep (V m : Int) (aT : Option Addr) (lt ct : Nat) (zt : List Int) (w : World) (hV0 : 0 ≤ V) (hV1 : V ≤ 65535) (wt : IsRow .u8 w aT lt ct zt) (hm : (Lit.int .u8 m).wf = true) (hl : lt ≤ 1048576) :
    Calls Try.prog 6 #[.int .i32 V, .int .u8 m, .slice aT lt ct] w fun e w' => e = .returned (.bool true) ∧ Below w.heap.size w w' := by
  have hmb : 0 ≤ m ∧ m ≤ 255 := by
    have := bounds_u8 hm
    omega
  have HT0 : Hid (IsRow .u8 w aT lt ct zt) := wt
  clear wt hm
  have HTl : Hid ((zt.take lt).length = lt) := by
    rcases HT0.out with ⟨_, h1, h2, h3⟩ | ⟨_, _, h1, _, h2, _, _⟩
    · show _ = _; subst h1; rfl
    · exact NumWalk.take_len h2 h1
  go_enter Try.func6, Try.ntmps6
  go_wp2_with (go_at_call 17; refine (bytes_ok _ _ _ _ _ _ hl).mono ?_; rintro e w ⟨rfl, rfl⟩)
  refine (clone_any aT lt ct zt _ HT0.out (by omega)).mono ?_
  rintro e w1 ⟨a1, rfl, hb1, h1⟩
  obtain ⟨ts, hts⟩ : ∃ ts, ts = zt.take lt := ⟨_, rfl⟩
  rw [← hts] at h1 HTl
  clear hts HT0
  have hsz1 := hb1.size
  have hA : Hid (0 < lt → a1 = some ⟨w.heap.size, 0, none⟩) := fun hp => (h1.out hp).1
  have hT1 : Hid (0 < lt → Own w1 w.heap.size ts) := fun hp => (h1.out hp).2
  have hlt1 : 0 < lt → w.heap.size < w1.heap.size := fun hp => (hT1.out hp).lt
  clear h1
  go_wp2_with (at_make; refine wpList_make_bytes _ rfl _ _ rfl _ _ _ _ (4 + lt) rfl rfl (by omega) (by omega) (by omega) ?_; intro w2 hO2 hb2)
  have hT2 : Hid (0 < lt → Own w2 w.heap.size ts) := fun hp => (hT1.out hp).below hb2 (hlt1 hp)
  clear hT1
  go_loopw [8] (fun i wr => ∃ k : Nat, k ≤ 4 ∧ i = .int .i64 k ∧ ∃ zs, Own wr w1.heap.size zs ∧ Hid (Spells V (4 + lt) k zs) ∧ Below w.heap.size w wr ∧ Hid (0 < lt → Own wr w.heap.size ts)) (fun i _ => 4 - (intOf i).toNat)
  case atStart => exact ⟨0, by omega, rfl, _, hO2, ⟨by simp, fun j hj => absurd hj (by omega)⟩, hb1.trans (hb2.mono hsz1), hT2⟩
  case round =>
    clear hO2 hb2 hT2
    obtain ⟨k, hk, rfl, zs, HO, HR, hb, hT⟩ := hrel
    by_cases hlt : k < 4
    · have hcl : wr.cell? ⟨w1.heap.size, k, none⟩ = some (.int .u8 (zs.getD k 0)) := HO.cell k (by rw [HR.out.1]; omega)
      have hfz : wr.frozen? ⟨w1.heap.size, k, none⟩ = false := HO.frozen k
      obtain ⟨z, hz⟩ : ∃ z, z = zs.getD k 0 := ⟨_, rfl⟩
      rw [← hz] at hcl
      clear hz
      obtain ⟨D, hDe⟩ : ∃ D, dgt V k = D := ⟨_, rfl⟩
      have hdr := dgt_range V k
      rw [hDe] at hdr
      have HD : Hid (dgt V k = D) := hDe
      clear hDe
      have hD0 := hdr.1
      have hD1 := hdr.2
      clear hdr
      have hlk : (k : Int) < (4 + lt : Int) := by omega
      rcases (show k = 0 ∨ k = 1 ∨ k = 2 ∨ k = 3 by omega) with rfl | rfl | rfl | rfl
      · have hD : bits BinOp.and IntKind.i32 (V / 4096) 15 % 256 = D := by
          rw [← HD.out, i32_low _ (by omega) (by omega)]; unfold dgt; omega
        go_wp2_with (go_at_call 18; refine (digit_any _ _ hD0 hD1 _).mono ?_; rintro e wr ⟨rfl, rfl⟩)
        go_roundw
        case rel => exact ⟨1, by omega, by go_num, _, HO.setCell 0 _, rel_step HR.out (by omega) HD.out hD0 hD1 _, hb.setCell (by show _ ≤ _; omega) _, fun hp => ((hT.out hp).setCell_other _ (by omega))⟩
        case measure => simp [intOf]
      · have hD : bits BinOp.and IntKind.i32 (V / 256) 15 % 256 = D := by
          rw [← HD.out, i32_low _ (by omega) (by omega)]; unfold dgt; omega
        go_wp2_with (go_at_call 18; refine (digit_any _ _ hD0 hD1 _).mono ?_; rintro e wr ⟨rfl, rfl⟩)
        go_roundw
        case rel => exact ⟨2, by omega, by go_num, _, HO.setCell 1 _, rel_step HR.out (by omega) HD.out hD0 hD1 _, hb.setCell (by show _ ≤ _; omega) _, fun hp => ((hT.out hp).setCell_other _ (by omega))⟩
        case measure => simp [intOf]
      · have hD : bits BinOp.and IntKind.i32 (V / 16) 15 % 256 = D := by
          rw [← HD.out, i32_low _ (by omega) (by omega)]; unfold dgt; omega
        go_wp2_with (go_at_call 18; refine (digit_any _ _ hD0 hD1 _).mono ?_; rintro e wr ⟨rfl, rfl⟩)
        go_roundw
        case rel => exact ⟨3, by omega, by go_num, _, HO.setCell 2 _, rel_step HR.out (by omega) HD.out hD0 hD1 _, hb.setCell (by show _ ≤ _; omega) _, fun hp => ((hT.out hp).setCell_other _ (by omega))⟩
        case measure => simp [intOf]
      · have hD : bits BinOp.and IntKind.i32 V 15 % 256 = D := by
          rw [← HD.out, i32_low _ (by omega) (by omega)]; unfold dgt; omega
        go_wp2_with (go_at_call 18; refine (digit_any _ _ hD0 hD1 _).mono ?_; rintro e wr ⟨rfl, rfl⟩)
        go_roundw
        case rel => exact ⟨4, by omega, by go_num, _, HO.setCell 3 _, rel_step HR.out (by omega) HD.out hD0 hD1 _, hb.setCell (by show _ ≤ _; omega) _, fun hp => ((hT.out hp).setCell_other _ (by omega))⟩
        case measure => simp [intOf]
    · obtain rfl : k = 4 := by omega
      clear hlt
      by_cases hl0 : lt = 0
      · subst hl0
        go_wp2_with ((with_reducible show wpList _ _ _ (Oper.mk _ (Op.call (Call.mk (Callee.builtin Builtin.copy) _ _)) _ _ _ _ :: _) _ _); go_must (refine wpList_copy_bytes _ rfl _ _ rfl _ _ _ _ _ _ rfl rfl w1.heap.size 4 _ HO [] ?c1 ?c2 ?c3 ?_))
        case c1 => rfl
        case c2 => intro h; exact absurd h (by simp)
        case c3 => rw [HR.out.1]; simp
        intro w4 hO4 hb4 hk4
        have HS4 : Hid (Spells V (4 + 0) 4 (splice zs 4 [])) := spells_splice (m := 0) HR.out rfl (by omega)
        obtain ⟨Z, hZ⟩ : ∃ Z, Z = splice zs 4 [] := ⟨_, rfl⟩
        rw [← hZ] at hO4 HS4
        clear hZ
        have HV : Hid (vl Z 4 = V) := spelt HS4.out hV0 hV1
        clear HO HR hT
        go_wp2_with fail
        refine (zzhex_any _ _ _ _ Z _ (hO4.bytesAll HS4.out.1 (by omega)) (by omega) (by omega) (fun j hj => (HS4.out.2 j hj).1)).mono ?_
        rintro e w5 ⟨rfl, rfl⟩
        rw [HV.out]
        clear hO4
        go_wp2
        go_ret
        exact ⟨ret_bool (by simp), hb.trans (hb4.mono hsz1)⟩
      · go_wp2_with ((with_reducible show wpList _ _ _ (Oper.mk _ (Op.call (Call.mk (Callee.builtin Builtin.copy) _ _)) _ _ _ _ :: _) _ _); go_must (refine wpList_copy_bytes _ rfl _ _ rfl _ _ _ _ _ _ rfl rfl w1.heap.size 4 _ HO ts ?d1 ?d2 ?d3 ?_))
        case d1 => rw [HTl.out]; simp
        case d2 =>
          intro _
          have hp : 0 < lt := by omega
          refine ⟨_, hA.out hp, fun j hj => ?_⟩
          have hc := (hT.out hp).cell j hj
          rw [addP]
          simpa [List.getD] using hc
        case d3 => rw [HR.out.1, HTl.out]; omega
        intro w4 hO4 hb4 hk4
        have HS4 : Hid (Spells V (4 + lt) 4 (splice zs 4 ts)) := spells_splice HR.out HTl.out (by omega)
        obtain ⟨Z, hZ⟩ : ∃ Z, Z = splice zs 4 ts := ⟨_, rfl⟩
        rw [← hZ] at hO4 HS4
        clear hZ
        have HV : Hid (vl Z 4 = V) := spelt HS4.out hV0 hV1
        clear HO HR hT
        go_wp2_with fail
        refine (zzhex_any _ _ _ _ Z _ (hO4.bytesAll HS4.out.1 (by omega)) (by omega) (by omega) (fun j hj => (HS4.out.2 j hj).1)).mono ?_
        rintro e w5 ⟨rfl, rfl⟩
        rw [HV.out]
        clear hO4
        go_wp2
        go_ret
        exact ⟨ret_bool (by simp), hb.trans (hb4.mono hsz1)⟩

theorem walk (a0 : Int) (a1 : Int) (a2 : Option Addr) (len2 cap2 : Nat) (z2 : List Int) (w : World) (w0 : (Lit.int .i32 a0).wf = true) (w1 : (Lit.int .u8 a1).wf = true) (w2 : IsRow .u8 w a2 len2 cap2 z2) :
    Calls Try.prog 6 #[.int .i32 a0, .int .u8 a1, .slice a2 len2 cap2] w fun e w' => e = .returned (.bool true) ∧ Below w.heap.size w w' := by
  by_cases hbig : (1048576 : Int) < (len2 : Int)
  · clear w0 w1 w2
    go_enter Try.func6, Try.ntmps6
    go_wp2
    go_ret
    exact ⟨rfl, Below.refl _ _⟩
  by_cases hneg : a0 < 0
  · clear w0 w1 w2
    go_enter Try.func6, Try.ntmps6
    go_wp2
    go_ret
    exact ⟨rfl, Below.refl _ _⟩
  by_cases hgt : 65535 < a0
  · clear w0 w1 w2
    go_enter Try.func6, Try.ntmps6
    go_wp2
    go_ret
    exact ⟨rfl, Below.refl _ _⟩
  exact deep a0 a1 a2 len2 cap2 z2 w (by omega) (by omega) w2 w1 (by omega)
#print axioms walk
end Go.Proofs.Qxb6600068a.fnHex4ReadsBackTheDigitsWritten
