/-
  THE WALK OF 'FnRowLocksAddCountsEveryTable'.
-/
import Derived.Test.Qxb6601209aFin
import Derived.WalkSmall
namespace Go.Proofs.Qxb6601209a.CountWalk
open Go.RowKit Go.Maps Go.WideMaps

theorem heap_new (w : World) (o : Obj) : (w.alloc o).heap[w.heap.size]? = some o := by
  show (w.heap.push o)[w.heap.size]? = _
  simp

set_option maxRecDepth 100000 in
set_option maxHeartbeats 4000000 in
theorem deep (b off len cap : Nat) (ss : List ByteArray) (p : ByteArray) (w : World) (hS : Strs w b off len ss) (hb : b < w.heap.size) (h1 : 1 ≤ len) (hlen : len ≤ 65536) (hp : p.size ≤ 1048576) (htot : p.size + 16 * len ≤ 1048576) (hz : ∀ j, (ss.getD j ByteArray.empty).size ≤ maxLen) :
    Calls Try.prog 5 #[.slice (some ⟨b, off, none⟩) len cap, .string p] w fun e w' => e = .returned (.bool true) ∧ Below w.heap.size w w' := by
  have HS : Hid (Strs w b off len ss) := hS
  have HC : Hid (∀ j, j < len → w.cell? ⟨b, off + j, none⟩ = some (.string (ss.getD j ByteArray.empty))) := hS.cell
  have HZ : Hid (∀ j, (ss.getD j ByteArray.empty).size ≤ maxLen) := hz
  clear hS hz
  have q26 : ∀ (w : World) (a : Option Addr) (n c n' c' : Nat), (binOp .neq 26 (.slice a n c) (.slice none n' c')).run Try.prog w = .ok (.bool (!a.isNone)) w := fun w a n c n' c' => run_neq_slice_nil_any w 26 9 a n c n' c' Try.underlying26
  go_enter Try.func5, Try.ntmps5
  go_wp2_with fail
  refine (bytes_some b off len cap ss p _ HS.out (by omega)).mono ?_
  rintro e w ⟨⟨β, rfl⟩, rfl⟩
  cases β with
  | false =>
    go_wp2
    go_ret
    exact ⟨rfl, Below.refl _ _⟩
  | true =>
  go_wp2
  go_loop [5, 6] (fun z i => ∃ (k : Nat) (x : Int), k ≤ len ∧ i = .int .i64 k ∧ z = .int .i64 x) (fun _ i => len - (intOf i).toNat)
  case atStart => exact ⟨0, _, by omega, rfl, rfl⟩
  case round =>
    obtain ⟨k, x, hk, rfl, rfl⟩ := hrel
    by_cases hlt : k < len
    · obtain ⟨s, hs⟩ : ∃ s, s = ss.getD k ByteArray.empty := ⟨_, rfl⟩
      have hcl : w.cell? ⟨b, off + k, none⟩ = some (.string s) := by rw [hs]; exact HC.out k hlt
      clear hs
      go_wp2
      all_goals first
        | (go_ret; exact ⟨rfl, Below.refl _ _⟩)
        | (go_round; (case rel => exact ⟨k + 1, _, by omega, by go_num, rfl⟩); (case measure => simp [intOf]; omega))
    · go_wp2
      clear hk hlt
      go_loop [7] (fun i => ∃ k : Nat, k ≤ len ∧ i = .int .i64 k ∧ Hid (∀ j, j < k → ((ss.getD j ByteArray.empty).toList == []) = false)) (fun i => len - (intOf i).toNat)
      case atStart => exact ⟨0, by omega, rfl, fun j hj => absurd hj (by omega)⟩
      case round =>
        obtain ⟨k2, hk, rfl, hrel⟩ := hrel
        by_cases hlt : k2 < len
        · obtain ⟨s, hs⟩ : ∃ s, s = ss.getD k2 ByteArray.empty := ⟨_, rfl⟩
          have hcl : w.cell? ⟨b, off + k2, none⟩ = some (.string s) := by rw [hs]; exact HC.out k2 hlt
          have HSs : Hid (s = ss.getD k2 ByteArray.empty) := hs
          clear hs
          cases he : (s.toList == []) with
          | true =>
            go_wp2
            go_ret
            exact ⟨rfl, Below.refl _ _⟩
          | false =>
            go_wp2
            go_round
            case rel =>
              refine ⟨k2 + 1, by omega, by go_num, fun j hj => ?_⟩
              by_cases hjk : j < k2
              · exact hrel.out j hjk
              · obtain rfl : j = k2 := by omega
                rw [← HSs.out]; exact he
            case measure => simp [intOf]; omega
        · obtain rfl : k2 = len := by omega
          clear hk
          have HNE : Hid (∀ j, j < k2 → ((ss.getD j ByteArray.empty).toList == []) = false) := hrel
          clear hrel
          obtain ⟨len, hlen2⟩ : ∃ l, l = k2 := ⟨_, rfl⟩
          subst hlen2
          -- the copy
          go_wp2_with (at_make; refine wpList_make_strs _ rfl _ _ rfl _ _ _ _ len rfl rfl rfl rfl (by omega) ?_; intro w1 hO1 hb1)
          rw [← HS.out.size, ← fill_zero] at hO1
          go_loopw [9] (fun i wr => ∃ k : Nat, k ≤ len ∧ i = .int .i64 k ∧ OwnS wr w.heap.size (fill ss k) ∧ Below w.heap.size w wr) (fun i _ => len - (intOf i).toNat)
          case atStart => exact ⟨0, by omega, rfl, hO1, hb1⟩
          case round =>
            clear hO1 hb1
            obtain ⟨k3, hk, rfl, hO, hbw⟩ := hrel
            by_cases hlt : k3 < len
            · obtain ⟨s, hs⟩ : ∃ s, s = ss.getD k3 ByteArray.empty := ⟨_, rfl⟩
              have hcl : wr.cell? ⟨b, off + k3, none⟩ = some (.string s) := by rw [hs]; exact (hbw.cell (by exact hb)).trans (HC.out k3 hlt)
              have hlf : k3 < (fill ss k3).length := by rw [fill_length ss k3 (by rw [HS.out.size]; omega), HS.out.size]; exact hlt
              have hcd := hO.cell k3 hlf
              have hfz := hO.frozen k3
              obtain ⟨z, hz⟩ : ∃ z, z = (fill ss k3).getD k3 ByteArray.empty := ⟨_, rfl⟩
              rw [← hz] at hcd
              have hO' := hO.setCell k3 s
              rw [hs, fill_step ss k3 (by rw [HS.out.size]; exact hlt), ← hs] at hO'
              clear hs hz hlf hO
              go_wp2
              go_roundw
              case rel => exact ⟨k3 + 1, by omega, by go_num, hO', hbw.setCell (Nat.le_refl _) _⟩
              case measure => simp [intOf]; omega
            · have hk3 : len = k3 := by omega
              subst hk3
              clear hk
              have hO' : OwnS wr w.heap.size ss := by rw [← HS.out.size, fill_all] at hO; exact hO
              clear hO
              go_wp2_with fail
              refine (zz_new 0 0 ⟨#[]⟩ none _).mono ?_
              rintro e wa ⟨rfl, hwa⟩
              have hgC : w.heap.size < wr.heap.size := hO'.lt
              have hB0 : Blk wa wr.heap.size 0 ⟨#[]⟩ 0 none := by
                show wa.heap[wr.heap.size]? = _
                rw [hwa]
                exact heap_new wr _
              have hOa : OwnS wa w.heap.size ss := hO'.same (by rw [hwa]; exact Below.heap_alloc _ _ _ hgC)
              have hba : Below w.heap.size w wa := by rw [hwa]; exact hbw.alloc hbw.size _
              have hsa : wa.heap.size = wr.heap.size + 1 := by rw [hwa, size_alloc]
              clear hwa hO' hbw
              have hmm := @run_makeMap Try.prog
              obtain ⟨C, hC⟩ : ∃ C, C = wr.heap.size := ⟨_, rfl⟩
              rw [← hC] at hB0 hsa hgC
              rw [← hC]
              clear hC
              go_wp2_with fail
              have hst0 : St ss (wa.alloc (.map #[] 0)) C (C + 1) 0 := ⟨none, hB0.same (Below.heap_alloc _ _ _ (by omega)), .inl ⟨rfl, fun _ => rfl, rfl⟩⟩
              have hm0 : Mp (wa.alloc (.map #[] 0)) (C + 1) (cnt ss 0) (num ss 0) 0 := by rw [← hsa]; exact Mp.made wa
              have ho0 : OwnS (wa.alloc (.map #[] 0)) w.heap.size ss := hOa.same (Below.heap_alloc _ _ _ (by omega))
              have hb0 : Below w.heap.size w (wa.alloc (.map #[] 0)) := hba.alloc hba.size _
              go_loopw [12] (fun i wx => ∃ k : Nat, k ≤ len ∧ i = .int .i64 k ∧ St ss wx C (C + 1) k ∧ Mp wx (C + 1) (cnt ss k) (num ss k) k ∧ OwnS wx w.heap.size ss ∧ Below w.heap.size w wx) (fun i _ => len - (intOf i).toNat)
              case atStart => exact ⟨0, by omega, rfl, hst0, hm0, ho0, hb0⟩
              case round =>
                clear hst0 hm0 ho0 hb0 hB0 hOa hba hsa hmm
                obtain ⟨k4, hk, rfl, hst, hmp, hos, hbw⟩ := hrel
                by_cases hlt : k4 < len
                · obtain ⟨s, hs⟩ : ∃ s, s = ss.getD k4 ByteArray.empty := ⟨_, rfl⟩
                  have hcl : wr.cell? ⟨w.heap.size, k4, none⟩ = some (.string s) := by rw [hs]; exact hos.cell k4 (by rw [HS.out.size]; exact hlt)
                  have HA : Hid (Calls Try.prog 12 #[.pointer (some ⟨C, 0, none⟩), .string s] wr fun e w' => e = .returned (.tuple #[]) ∧ (St ss w' C (C + 1) (k4 + 1) ∧ Kept C (C + 1) wr w')) := by
                    rw [hs]
                    exact add_rel ss C (C + 1) k4 wr hst hmp.lt (by omega) (by omega) (fun j hj => HNE.out j (by omega)) HZ.out
                  have hss : s.size ≤ maxLen := by rw [hs]; exact HZ.out k4
                  have hkey : Hid (s.data.toList = key ss k4) := by show _ = _; rw [hs]; rfl
                  clear hs
                  go_wp2_with fail
                  refine HA.out.mono ?_
                  rintro e w2 ⟨rfl, hst2, hkp⟩
                  have hmp2 : Mp w2 (C + 1) (cnt ss k4) (num ss k4) k4 := hmp.same (hkp.block _ (by omega) (by omega))
                  have hos2 : OwnS w2 w.heap.size ss := hos.same (hkp.block _ (by omega) (by omega))
                  have hcl2 : w2.cell? ⟨w.heap.size, k4, none⟩ = some (.string s) := by rw [← hcl]; exact World.cell?_of_block (hkp.block _ (by show w.heap.size ≤ C + 1; omega) (by show w.heap.size ≠ C; omega))
                  have hb2 : Below w.heap.size w w2 := hbw.trans ⟨hkp.os, hkp.tape, hkp.output, hkp.size, fun j hj => hkp.block j (by omega) (by omega)⟩
                  have hl := hmp2.look hss
                  obtain ⟨F, hF⟩ : ∃ F, F = cnt ss k4 s.data.toList := ⟨_, rfl⟩
                  have hFl : F ≤ 65536 := by rw [hF]; have := cnt_le ss k4 s.data.toList; omega
                  rw [← hF] at hl
                  have HF : Hid (F = cnt ss k4 s.data.toList) := hF
                  clear hF HA hcl hos hmp hst hbw
                  go_wp2_with (at_mapUpdate; go_must (refine wpList_upd _ rfl _ _ _ rfl (C + 1) (cnt ss k4) (num ss k4) k4 rfl hmp2 (by omega) s hss _ rfl rfl (by rw [← HF.out]) (by rw [← HF.out]; omega) ?_))
                  intro w3 hmp3 hg3
                  rw [hkey.out] at hmp3
                  have hst3 := hst2.grown hg3 (by omega)
                  have hos3 : OwnS w3 w.heap.size ss := hos2.same (hg3.block _ hos2.lt (by simp; omega))
                  have hb3 : Below w.heap.size w w3 := hb2.grown hg3 hb2.size (fun j hj => by cases hj; omega)
                  clear hst2 hos2 hb2 hg3 hmp2 hl hcl2 hkp
                  go_wp2
                  go_roundw
                  case rel => exact ⟨k4 + 1, by omega, by go_num, hst3, hmp3, hos3, hb3⟩
                  case measure => simp [intOf]; omega
                · have hk4 : len = k4 := by omega
                  subst hk4
                  clear hk
                  obtain ⟨mo, hB, hM⟩ := hst
                  rw [show tbl ss len = ss.getD 0 ByteArray.empty by simp [tbl]; omega] at hB
                  go_wp2_with fail
                  refine (zz_fields C _ _ _ mo _ hB).mono ?_
                  rintro e wq ⟨rfl, q, hwq⟩
                  have hh : wq.heap = wr.heap := by rw [hwq]; rfl
                  have hmq : Mp wq (C + 1) (cnt ss len) (num ss len) len := hmp.same (by rw [hh])
                  have hMq := hM.same hh
                  have hoq : OwnS wq w.heap.size ss := hos.same (by rw [hh])
                  have hbq : Below w.heap.size w wq := hbw.trans (by rw [hwq]; exact ⟨rfl, rfl, rfl, Nat.le_refl _, fun _ _ => rfl⟩)
                  clear hwq hh hB hM hmp hos hbw
                  have HR : Hid (∀ wx : World, wx.heap = wq.heap → ∀ s : ByteArray, s.size ≤ maxLen → Calls Try.prog 14 #[.string (ss.getD 0 ByteArray.empty), .int .i64 (cnt ss len (key ss 0) : Nat), .map mo, .string s] wx fun e w' => e = .returned (.int .i64 (cnt ss len s.data.toList : Nat)) ∧ w' = wx) :=
                    fun wx hx s hs => row_rel ss (C + 1) len wx mo (hMq.same hx) (HNE.out 0 (by omega)) s hs
                  have HL : Hid (∀ wx : World, wx.heap = wq.heap → ∀ s : ByteArray, s.size ≤ maxLen → (Instr.lookup 30 (.map (some (C + 1))) (.string s) false).run Try.prog wx = .ok (.int .i64 (cnt ss len s.data.toList : Nat)) wx) :=
                    fun wx hx s hs => (hmq.same (by rw [hx])).look hs
                  have hne0 : ((ss.getD 0 ByteArray.empty).toList == []) = false := HNE.out 0 (by omega)
                  have hlk := hMq.look_ok (HZ.out 0) (by rw [cntM_eq]; exact if_pos rfl)
                  have hc0 : wq.cell? ⟨w.heap.size, 0, none⟩ = some (.string (ss.getD 0 ByteArray.empty)) := hoq.cell 0 (by rw [HS.out.size]; omega)
                  have hln := fun ty => hmq.len ty
                  have hlm := fun ty => hMq.len ty
                  have hni := hMq.nil
                  have hle := hmq.le
                  rw [num_eq ss len h1] at hln hle
                  have HNU : Hid (num ss len = numM ss len + 1) := num_eq ss len h1
                  obtain ⟨s0, hs0⟩ : ∃ s0, s0 = ss.getD 0 ByteArray.empty := ⟨_, rfl⟩
                  obtain ⟨n0, hn0⟩ : ∃ n0, n0 = cnt ss len (key ss 0) := ⟨_, rfl⟩
                  obtain ⟨NM, hNM⟩ : ∃ NM, NM = numM ss len := ⟨_, rfl⟩
                  rw [← hs0, ← hn0] at HR
                  rw [← hs0] at hne0 hlk hc0
                  rw [← hNM] at hln hlm hni hle
                  rw [← hs0, ← hn0]
                  clear hs0 hn0 hNM
                  have hbn : (mo.isNone == ((NM : Int) == 0)) = true := by
                    rw [hni]
                    by_cases hz : NM = 0
                    · subst hz; rfl
                    · have : (((NM : Int)) == 0) = false := by rw [beq_eq_false_iff_ne]; omega
                      rw [this]; simp [hz]
                  have q30 : ∀ (w : World) (r : Option Nat), (binOp .eql 30 (.map r) (.map none)).run Try.prog w = .ok (.bool r.isNone) w := fun w r => run_eql_map_nil w 30 9 3 r Try.underlying30
                  have HMQ : Hid (Mp wq (C + 1) (cnt ss len) (num ss len) len) := hmq
                  have HOQ : Hid (OwnS wq w.heap.size ss) := hoq
                  have HNI : Hid (mo.isNone = decide (NM = 0)) := hni
                  clear hmq hMq hoq hni
                  go_wp2_with (((with_reducible show wpList _ _ _ (Oper.mk _ (Op.call (Call.mk (Callee.builtin Builtin.len) _ #[30])) _ _ _ _ :: _) _ _); first | refine wpList_len_map _ rfl _ rfl _ rfl _ hln ?_ | refine wpList_len_map _ rfl _ rfl _ rfl _ hlm ?_))
                  clear hlk hc0 hln hlm hbn q30 HNI HMQ hle HNU
                  go_loopw [20] (fun i wx => ∃ k : Nat, k ≤ len ∧ i = .int .i64 k ∧ Hid (wx.heap = wq.heap) ∧ Below w.heap.size w wx) (fun i _ => len - (intOf i).toNat)
                  case atStart => exact ⟨0, by omega, rfl, rfl, hbq⟩
                  case round =>
                    clear hbq
                    obtain ⟨k5, hk, rfl, hhx, hbx⟩ := hrel
                    by_cases hlt : k5 < len
                    · obtain ⟨s, hs⟩ : ∃ s, s = ss.getD k5 ByteArray.empty := ⟨_, rfl⟩
                      have hcl : wr.cell? ⟨w.heap.size, k5, none⟩ = some (.string s) := by
                        rw [hs]; exact (HOQ.out.same (by rw [hhx.out])).cell k5 (by rw [HS.out.size]; exact hlt)
                      have hss : s.size ≤ maxLen := by rw [hs]; exact HZ.out k5
                      clear hs
                      obtain ⟨F, hF⟩ : ∃ F, F = cnt ss len s.data.toList := ⟨_, rfl⟩
                      have HRk : Hid (∀ n : Nat, Calls Try.prog 14 #[.string s0, .int .i64 (n0 : Nat), .map mo, .string s] (wr.drewN n) fun e w' => e = .returned (.int .i64 (F : Nat)) ∧ w' = wr.drewN n) := fun n => by rw [hF]; exact HR.out (wr.drewN n) hhx.out s hss
                      have hl : ∀ n : Nat, (Instr.lookup 30 (.map (some (C + 1))) (.string s) false).run Try.prog (wr.drewN n) = .ok (.int .i64 (F : Nat)) (wr.drewN n) := fun n => by rw [hF]; exact HL.out (wr.drewN n) hhx.out s hss
                      clear hF
                      have hlk : (k5 : Int) < (len : Int) := by omega
                      go_wp2
                      go_quiet ((go_at_call 14; exact Calls.quiet_of_same (HRk.out _)))
                      go_wp2
                      go_roundw
                      case rel => exact ⟨k5 + 1, by omega, by go_num, hhx, below_drewN hbx _⟩
                      case measure => simp [intOf]; omega
                    · have hps : p.size ≤ maxLen := by unfold maxLen; omega
                      obtain ⟨F, hF⟩ : ∃ F, F = cnt ss len p.data.toList := ⟨_, rfl⟩
                      have HRk : Hid (∀ n : Nat, Calls Try.prog 14 #[.string s0, .int .i64 (n0 : Nat), .map mo, .string p] (wr.drewN n) fun e w' => e = .returned (.int .i64 (F : Nat)) ∧ w' = wr.drewN n) := fun n => by rw [hF]; exact HR.out (wr.drewN n) hhx.out p hps
                      have hl : ∀ n : Nat, (Instr.lookup 30 (.map (some (C + 1))) (.string p) false).run Try.prog (wr.drewN n) = .ok (.int .i64 (F : Nat)) (wr.drewN n) := fun n => by rw [hF]; exact HL.out (wr.drewN n) hhx.out p hps
                      clear hF
                      go_wp2
                      go_quiet ((go_at_call 14; exact Calls.quiet_of_same (HRk.out _)))
                      go_wp2
                      go_ret
                      exact ⟨ret_bool (by simp), below_drewN hbx _⟩
#print axioms deep
end Go.Proofs.Qxb6601209a.CountWalk
