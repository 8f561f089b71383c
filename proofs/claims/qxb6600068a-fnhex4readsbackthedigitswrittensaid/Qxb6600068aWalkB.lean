import Derived.Test.Qxb6600068aWalkA
import Derived.Deep.DeepCutAuto
import Derived.Deep.CutBlock
namespace Go.Proofs.Qxb6600068a.NumWalk
open Go.RowKit Go.Proofs.Qxb6600068a.Plain

theorem isD_true {c : Int} (h1 : 48 ≤ c) (h2 : c ≤ 57) : isD c = true := by simp [isD, h1, h2]
theorem isD_false {c : Int} (h : c < 48 ∨ 57 < c) : isD c = false := by simp [isD]; omega

/-- An e or an E stands at j. -/
def eB (zs : List Int) (j : Nat) : Bool := decide (j < zs.length) && (decide (zs.getD j 0 = 101) || decide (zs.getD j 0 = 69))
theorem eB_true {zs : List Int} {j : Nat} {c : Int} (h : j < zs.length) (hc : c = zs.getD j 0) (e : c = 101 ∨ c = 69) : eB zs j = true := by
  unfold eB; rw [← hc]; simpa [h] using e
theorem eB_false {zs : List Int} {j : Nat} {c : Int} (hc : c = zs.getD j 0) (e1 : ¬ c = 101) (e2 : ¬ c = 69) : eB zs j = false := by
  unfold eB; rw [← hc]; simp [e1, e2]
theorem eB_end {zs : List Int} {j : Nat} (h : ¬ j < zs.length) : eB zs j = false := by
  unfold eB; simp [h]
theorem eB_lt {zs : List Int} {j : Nat} (h : eB zs j = true) : j < zs.length := by
  unfold eB at h; simp only [Bool.and_eq_true, decide_eq_true_eq] at h; exact h.1
theorem eB_E {zs : List Int} {j : Nat} (h : eB zs j = true) : at' nE zs j = at' nS zs (j + 1) := by
  refine E_e (eB_lt h) rfl ?_
  unfold eB at h; simp only [Bool.and_eq_true, Bool.or_eq_true, decide_eq_true_eq] at h; exact h.2
theorem eB_not {zs : List Int} {j : Nat} (h : eB zs j = false) : at' nE zs j = ((j : Nat) : Int) := by
  by_cases hl : j < zs.length
  · unfold eB at h; simp only [hl, decide_true, Bool.true_and, Bool.or_eq_false_iff, decide_eq_false_iff_not] at h
    exact E_other hl rfl h.1 h.2
  · exact E_end hl

/-- A sign stands at j. -/
def sB (zs : List Int) (j : Nat) : Bool := decide (j < zs.length) && (decide (zs.getD j 0 = 43) || decide (zs.getD j 0 = 45))
theorem sB_true {zs : List Int} {j : Nat} {c : Int} (h : j < zs.length) (hc : c = zs.getD j 0) (e : c = 43 ∨ c = 45) : sB zs j = true := by
  unfold sB; rw [← hc]; simpa [h] using e
theorem sB_false {zs : List Int} {j : Nat} {c : Int} (hc : c = zs.getD j 0) (e1 : ¬ c = 43) (e2 : ¬ c = 45) : sB zs j = false := by
  unfold sB; rw [← hc]; simp [e1, e2]
theorem sB_end {zs : List Int} {j : Nat} (h : ¬ j < zs.length) : sB zs j = false := by
  unfold sB; simp [h]
theorem sB_lt {zs : List Int} {j : Nat} (h : sB zs j = true) : j < zs.length := by
  unfold sB at h; simp only [Bool.and_eq_true, decide_eq_true_eq] at h; exact h.1
theorem sB_S {zs : List Int} {j : Nat} (h : sB zs j = true) : at' nS zs j = at' nX zs (j + 1) := by
  refine S_sign (sB_lt h) rfl ?_
  unfold sB at h; simp only [Bool.and_eq_true, Bool.or_eq_true, decide_eq_true_eq] at h; exact h.2
theorem sB_not {zs : List Int} {j : Nat} (h : sB zs j = false) : at' nS zs j = at' nX zs j := by
  by_cases hl : j < zs.length
  · unfold sB at h; simp only [hl, decide_true, Bool.true_and, Bool.or_eq_false_iff, decide_eq_false_iff_not] at h
    exact S_other hl rfl h.1 h.2
  · exact S_end hl

set_option maxRecDepth 100000 in
set_option maxHeartbeats 2000000 in
theorem number_any (b off len cap i0 : Nat) (zs : List Int) (w : World) (hB : Bytes w b off len zs) (hi : i0 < len) :
    Calls Try.prog 28 #[.slice (some ⟨b, off, none⟩) len cap, .int .i64 i0] w fun e w' => e = .returned (.int .i64 (at' nN zs i0)) ∧ w' = w := by
  have HB : Hid (Bytes w b off len zs) := hB
  have hbd := hB.bound
  have HS : Hid (zs.length = len) := hB.size
  have HC : Hid (∀ j, j < len → w.cell? ⟨b, off + j, none⟩ = some (.int .u8 (zs.getD j 0))) := hB.cell
  clear hB
  obtain ⟨c, hc⟩ : ∃ c, c = zs.getD i0 0 := ⟨_, rfl⟩
  have hcl : w.cell? ⟨b, off + i0, none⟩ = some (.int .u8 c) := by rw [hc]; exact HC.out i0 hi
  have Hc : Hid (c = zs.getD i0 0) := hc
  clear hc
  go_enter Try.func28, Try.ntmps28
  go_upto_if 9 with fail
  go_cut [1] (fun s1 wx => ∃ i1 : Nat, i1 ≤ len ∧ s1 = .int .i64 i1 ∧ Hid (at' nN zs i0 = at' nI zs i1) ∧ wx = w)
  case first =>
    by_cases hm : c = 45
    · go_wp2
      go_meet
      case rel => exact ⟨i0 + 1, by omega, by go_num, N_minus (by rw [HS.out]; exact hi) Hc.out hm, rfl⟩
    · go_wp2
      go_meet
      case rel => exact ⟨i0, by omega, rfl, N_other (by rw [HS.out]; exact hi) Hc.out hm, rfl⟩
  case rest =>
  obtain ⟨i1, hi1, rfl, hN, rfl⟩ := hcut
  clear hcl Hc c
  -- the integer part
  go_upto_block 0 with fail
  go_cut [1] (fun s1 wx => ∃ j : Nat, j ≤ len ∧ s1 = .int .i64 j ∧ Hid (at' nN zs i0 = at' nF zs j) ∧ wx = wc)
  case first =>
    by_cases hlt : i1 < len
    · obtain ⟨c, hc⟩ : ∃ c, c = zs.getD i1 0 := ⟨_, rfl⟩
      have hcl : wc.cell? ⟨b, off + i1, none⟩ = some (.int .u8 c) := by rw [hc]; exact HC.out i1 hlt
      have Hc : Hid (c = zs.getD i1 0) := hc
      clear hc
      have hl' : i1 < zs.length := by rw [HS.out]; exact hlt
      have HL : Hid (i1 < zs.length) := hl'
      clear hl'
      have hdg := dg_le zs i1 (by rw [HS.out]; omega)
      have hdl : dg zs i1 ≤ len := by rw [← HS.out]; exact hdg.2
      clear hdg
      by_cases h0 : c = 48
      · go_wp2
        go_meet
        case rel => exact ⟨i1 + 1, by omega, by go_num, hN.out.trans (I_zero HL.out Hc.out h0), rfl⟩
      · by_cases h1 : 49 ≤ c
        · by_cases h2 : c ≤ 57
          · go_wp2_with (go_at_call 32; refine (digits_any _ _ _ _ _ zs _ HB.out (by omega)).mono ?_; rintro e w' ⟨rfl, rfl⟩)
            go_meet
            case rel => exact ⟨dg zs i1, hdl, rfl, hN.out.trans (I_digit HL.out Hc.out h0 (isD_true (by omega) h2)), rfl⟩
          · go_wp2
            go_ret
            exact ⟨ret_int (hN.out.trans (I_none HL.out Hc.out (isD_false (by omega)))).symm, rfl⟩
        · go_wp2
          go_ret
          exact ⟨ret_int (hN.out.trans (I_none HL.out Hc.out (isD_false (by omega)))).symm, rfl⟩
    · go_wp2
      go_ret
      exact ⟨ret_int (hN.out.trans (I_end (by rw [HS.out]; exact hlt))).symm, rfl⟩
  case rest =>
  obtain ⟨j, hj, rfl, hF, rfl⟩ := hcut
  clear hN hi1 hi
  -- the fraction
  go_step
  go_step
  go_cut [1] (fun s1 wx => ∃ j2 : Nat, j2 ≤ len ∧ s1 = .int .i64 j2 ∧ Hid (at' nN zs i0 = at' nE zs j2) ∧ wx = wc)
  case first =>
    by_cases hlt : j < len
    · obtain ⟨c, hc⟩ : ∃ c, c = zs.getD j 0 := ⟨_, rfl⟩
      have hcl : wc.cell? ⟨b, off + j, none⟩ = some (.int .u8 c) := by rw [hc]; exact HC.out j hlt
      have Hc : Hid (c = zs.getD j 0) := hc
      clear hc
      have HL : Hid (j < zs.length) := by rw [HS.out]; exact hlt
      by_cases h0 : c = 46
      · have hG := hF.out.trans (F_dot HL.out Hc.out h0)
        have HG : Hid (at' nN zs i0 = at' nG zs (j + 1)) := hG
        clear hG
        by_cases hlt2 : j + 1 < len
        · obtain ⟨d, hd⟩ : ∃ d, d = zs.getD (j + 1) 0 := ⟨_, rfl⟩
          have hdl : wc.cell? ⟨b, off + (j + 1), none⟩ = some (.int .u8 d) := by rw [hd]; exact HC.out (j + 1) hlt2
          have Hd : Hid (d = zs.getD (j + 1) 0) := hd
          clear hd
          have HL2 : Hid (j + 1 < zs.length) := by rw [HS.out]; exact hlt2
          have hdg : dg zs (j + 1) ≤ len := by rw [← HS.out]; exact (dg_le zs (j + 1) (by rw [HS.out]; omega)).2
          by_cases hi : isD d = true
          · go_wp2_with (first | (go_at_call 33; refine (isD_any _ _).mono ?_; rintro e w' ⟨rfl, rfl⟩) | (go_at_call 32; refine (digits_any b off len cap (j + 1) zs _ HB.out (by omega)).mono ?_; rintro e w' ⟨rfl, rfl⟩))
            go_meet
            case rel => exact ⟨dg zs (j + 1), hdg, rfl, HG.out.trans (G_digit HL2.out Hd.out hi), rfl⟩
          · have hi' : isD d = false := by simpa using hi
            clear hi
            go_wp2_with (go_at_call 33; refine (isD_any _ _).mono ?_; rintro e w' ⟨rfl, rfl⟩)
            go_ret
            exact ⟨ret_int (HG.out.trans (G_none HL2.out Hd.out hi')).symm, rfl⟩
        · go_wp2
          go_ret
          exact ⟨ret_int (HG.out.trans (G_end (by rw [HS.out]; exact hlt2))).symm, rfl⟩
      · go_wp2
        go_meet
        case rel => exact ⟨j, hj, rfl, hF.out.trans (F_other HL.out Hc.out h0), rfl⟩
    · go_wp2
      go_meet
      case rel => exact ⟨j, hj, rfl, hF.out.trans (F_end (by rw [HS.out]; exact hlt)), rfl⟩
  case rest =>
  obtain ⟨j2, hj2, rfl, hE, rfl⟩ := hcut
  clear hF hj j
  go_step
  go_step
  go_cut [1] (fun s1 wx => s1 = .int .i64 (at' nN zs i0) ∧ wx = wc)
  case first =>
    go_step
    go_cut [93] (fun s93 wx => s93 = .bool (eB zs j2) ∧ wx = wc)
    case first =>
      by_cases hlt : j2 < len
      · obtain ⟨c, hc⟩ : ∃ c, c = zs.getD j2 0 := ⟨_, rfl⟩
        have hcl : wc.cell? ⟨b, off + j2, none⟩ = some (.int .u8 c) := by rw [hc]; exact HC.out j2 hlt
        have Hc : Hid (c = zs.getD j2 0) := hc
        clear hc
        have HL : Hid (j2 < zs.length) := by rw [HS.out]; exact hlt
        by_cases h1 : c = 101
        · go_wp2
          go_meet
          case rel => exact ⟨congrArg Value.bool (eB_true HL.out Hc.out (.inl h1)).symm, rfl⟩
        · by_cases h2 : c = 69
          · go_wp2
            go_meet
            case rel => exact ⟨congrArg Value.bool (eB_true HL.out Hc.out (.inr h2)).symm, rfl⟩
          · go_wp2
            go_meet
            case rel => exact ⟨congrArg Value.bool (by rw [eB_false Hc.out h1 h2]; simp [h1, h2]), rfl⟩
      · go_wp2
        go_meet
        case rel => exact ⟨congrArg Value.bool (eB_end (by rw [HS.out]; exact hlt)).symm, rfl⟩
    case rest =>
    obtain ⟨h93, rfl⟩ := hcut
    cases he : eB zs j2 with
    | false =>
      rw [he] at h93
      subst h93
      have HEq : Hid (at' nN zs i0 = ((j2 : Nat) : Int)) := hE.out.trans (eB_not he)
      clear he hE
      go_wp2
      go_meet
      case rel => exact ⟨congrArg (Value.int IntKind.i64) HEq.out.symm, rfl⟩
    | true =>
      rw [he] at h93
      subst h93
      have hlt : j2 < len := by rw [← HS.out]; exact eB_lt he
      have HSn : Hid (at' nN zs i0 = at' nS zs (j2 + 1)) := hE.out.trans (eB_E he)
      clear he hE
      -- the sign
      go_upto_region 15 with fail
      go_cut [113] (fun s113 wx => s113 = .bool (sB zs (j2 + 1)) ∧ wx = wc)
      case first =>
        by_cases hl2 : j2 + 1 < len
        · obtain ⟨c, hc⟩ : ∃ c, c = zs.getD (j2 + 1) 0 := ⟨_, rfl⟩
          have hcl : wc.cell? ⟨b, off + (j2 + 1), none⟩ = some (.int .u8 c) := by rw [hc]; exact HC.out (j2 + 1) hl2
          have Hc : Hid (c = zs.getD (j2 + 1) 0) := hc
          clear hc
          have HL : Hid (j2 + 1 < zs.length) := by rw [HS.out]; exact hl2
          by_cases h1 : c = 43
          · go_wp2
            go_meet
            case rel => exact ⟨congrArg Value.bool (sB_true HL.out Hc.out (.inl h1)).symm, rfl⟩
          · by_cases h2 : c = 45
            · go_wp2
              go_meet
              case rel => exact ⟨congrArg Value.bool (sB_true HL.out Hc.out (.inr h2)).symm, rfl⟩
            · go_wp2
              go_meet
              case rel => exact ⟨congrArg Value.bool (by rw [sB_false Hc.out h1 h2]; simp [h1, h2]), rfl⟩
        · go_wp2
          go_meet
          case rel => exact ⟨congrArg Value.bool (sB_end (by rw [HS.out]; exact hl2)).symm, rfl⟩
      case rest =>
      obtain ⟨h113, rfl⟩ := hcut
      cases hs : sB zs (j2 + 1) with
      | true =>
        rw [hs] at h113
        subst h113
        have hl2 : j2 + 1 < len := by rw [← HS.out]; exact sB_lt hs
        have HX : Hid (at' nN zs i0 = at' nX zs (j2 + 1 + 1)) := HSn.out.trans (sB_S hs)
        clear hs HSn
        by_cases hl3 : j2 + 1 + 1 < len
        · obtain ⟨d, hd⟩ : ∃ d, d = zs.getD (j2 + 1 + 1) 0 := ⟨_, rfl⟩
          have hdl : wc.cell? ⟨b, off + (j2 + 1 + 1), none⟩ = some (.int .u8 d) := by rw [hd]; exact HC.out (j2 + 1 + 1) hl3
          have Hd : Hid (d = zs.getD (j2 + 1 + 1) 0) := hd
          clear hd
          have HL3 : Hid (j2 + 1 + 1 < zs.length) := by rw [HS.out]; exact hl3
          have hdg : dg zs (j2 + 1 + 1) ≤ len := by rw [← HS.out]; exact (dg_le zs (j2 + 1 + 1) (by rw [HS.out]; omega)).2
          by_cases hi : isD d = true
          · go_wp2_with (first | (go_at_call 33; refine (isD_any _ _).mono ?_; rintro e w' ⟨rfl, rfl⟩) | (go_at_call 32; refine (digits_any b off len cap (j2 + 1 + 1) zs _ HB.out (by omega)).mono ?_; rintro e w' ⟨rfl, rfl⟩))
            go_meet
            case rel => exact ⟨congrArg (Value.int IntKind.i64) (HX.out.trans (X_digit HL3.out Hd.out hi)).symm, rfl⟩
          · have hi' : isD d = false := by simpa using hi
            clear hi
            go_wp2_with (go_at_call 33; refine (isD_any _ _).mono ?_; rintro e w' ⟨rfl, rfl⟩)
            go_ret
            exact ⟨ret_int (HX.out.trans (X_none HL3.out Hd.out hi')).symm, rfl⟩
        · go_wp2
          go_ret
          exact ⟨ret_int (HX.out.trans (X_end (by rw [HS.out]; exact hl3))).symm, rfl⟩
      | false =>
        rw [hs] at h113
        subst h113
        have HX : Hid (at' nN zs i0 = at' nX zs (j2 + 1)) := HSn.out.trans (sB_not hs)
        clear hs HSn
        by_cases hl3 : j2 + 1 < len
        · obtain ⟨d, hd⟩ : ∃ d, d = zs.getD (j2 + 1) 0 := ⟨_, rfl⟩
          have hdl : wc.cell? ⟨b, off + (j2 + 1), none⟩ = some (.int .u8 d) := by rw [hd]; exact HC.out (j2 + 1) hl3
          have Hd : Hid (d = zs.getD (j2 + 1) 0) := hd
          clear hd
          have HL3 : Hid (j2 + 1 < zs.length) := by rw [HS.out]; exact hl3
          have hdg : dg zs (j2 + 1) ≤ len := by rw [← HS.out]; exact (dg_le zs (j2 + 1) (by rw [HS.out]; omega)).2
          by_cases hi : isD d = true
          · go_wp2_with (first | (go_at_call 33; refine (isD_any _ _).mono ?_; rintro e w' ⟨rfl, rfl⟩) | (go_at_call 32; refine (digits_any b off len cap (j2 + 1) zs _ HB.out (by omega)).mono ?_; rintro e w' ⟨rfl, rfl⟩))
            go_meet
            case rel => exact ⟨congrArg (Value.int IntKind.i64) (HX.out.trans (X_digit HL3.out Hd.out hi)).symm, rfl⟩
          · have hi' : isD d = false := by simpa using hi
            clear hi
            go_wp2_with (go_at_call 33; refine (isD_any _ _).mono ?_; rintro e w' ⟨rfl, rfl⟩)
            go_ret
            exact ⟨ret_int (HX.out.trans (X_none HL3.out Hd.out hi')).symm, rfl⟩
        · go_wp2
          go_ret
          exact ⟨ret_int (HX.out.trans (X_end (by rw [HS.out]; exact hl3))).symm, rfl⟩
  case rest =>
    obtain ⟨rfl, rfl⟩ := hcut
    go_wp2
    go_ret
    exact ⟨rfl, rfl⟩
#print axioms number_any
end Go.Proofs.Qxb6600068a.NumWalk
