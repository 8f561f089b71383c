/-
  'Rows.FnNumberAfterDependsOnlyOnWhatFollowsSaid', PROVED. The frame is the shell's own, but for its closed facts: they are laid one by one (in one declaration the kernel outgrew its lid); the walk: Qxb6600068aDependsWalk.lean.
-/
import Derived.Test.Qxb6600068aRows
import Derived.WalkKit
import Derived.ProofKit
import Derived.OpenShut
import Derived.ShutString
import Derived.ChangeOld
import Derived.Below
import Derived.Test.Qxb6600068aDependsWalk
import Derived.Test.Qxb6600068aOrder
namespace Go.Proofs.Qxb6600068a.fnNumberAfterDependsOnlyOnWhatFollows
open Go.ChangeShapes Go.WideShapes Go.ChangeAt Go.RowKit
open Go.ChangeMaps (open_string shut_string)
set_option linter.unusedVariables false

theorem own : ownKnob Try.prog.godebug = none := by kernel_rfl
theorem laidOut : laidOutB Try.prog = true := by kernel_rfl

/-! ### THE ROW's STEP: WRITTEN OUT: LEAVE IT -/
set_option maxRecDepth 100000 in
theorem lifted (os : Os) (started : os.Started) (H : Type) (enc : TypeId × Value → H) :
    ReturnsInHanded {} Try.checked os 4 .any (Rows.fnNumberAfterDependsOnlyOnWhatFollowsSpec.pre6 enc Try.prog Try.f4 Rows.fnNumberAfterDependsOnlyOnWhatFollowsRow.domain false) (Rows.fnNumberAfterDependsOnlyOnWhatFollowsSpec.post enc Try.prog Try.f4 false true false false) := by
  refine returnsInHanded_of_change (C := Try.checked) own started (by kernel_rfl) Try.func4
    (ChangeSpec.witness6 (enc := enc) (C := Try.checked) false ⟨#[], #[.slice none 0 0, .slice none 0 0, .int .i64 0], []⟩ 8 (by kernel_rfl) (by kernel_rfl) (by kernel_rfl) (by kernel_rfl)) ?_
  intro W base args ds gs before hval0 hW hcnd _
  have hval : ∀ (j : Nat) t v, Try.f4.params[j]? = some t → args[j]? = some v → Value.okWide Try.prog W .any base t v := hval0
  have hW' := hW
  obtain ⟨p, q, hA0, hV, rfl, hfz, hnd⟩ := hW
  have hA : DataW.TrodAll enc Try.prog W 0 (fun _ => true) true Try.f4.params.toList args.toList ds p := hA0
  rw [Try.params4] at hA hval
  obtain ⟨v0, vs0, d0, ds0, p0, q0, hargs, rfl, rfl, h0, r0⟩ := trodAll_cons hA
  obtain ⟨v1, vs1, d1, ds1, p1, q1, rfl, rfl, rfl, h1, r1⟩ := trodAll_cons r0
  obtain ⟨v2, vs2, d2, ds2, p2, q2, rfl, rfl, rfl, h2, r2⟩ := trodAll_cons r1
  obtain ⟨rfl, rfl, rfl⟩ := trodAll_nil r2
  obtain rfl : args = #[v0, v1, v2] := by cases args; simp_all
  obtain ⟨rfl, rfl⟩ := trodVars_none hV
  obtain ⟨a0, len0, cap0, rfl⟩ := okWide_slice Try.underlying22 (hval 0 22 v0 rfl rfl)
  have k0 := h0
  have lt0 : ∀ x ∈ p0, x.block < W.heap.size := by obtain ⟨m, hm⟩ := k0; exact DataW.trod_lt m _ _ _ hm
  obtain ⟨z0, w0⟩ : ∃ zs, IsRow .u8 W a0 len0 cap0 zs := by
    obtain ⟨fuel, hf⟩ := h0
    rcases open_ints Try.underlying22 Try.underlying5 (by kernel_rfl) hf with ⟨hcs, _⟩ | ⟨x, l, c, zs, hcs, _, hl, hm, hz, _, hcell, hwz⟩
    · simp [Value.cells] at hcs
      obtain ⟨rfl, rfl, rfl⟩ := hcs
      exact ⟨[], .inl ⟨rfl, rfl, rfl, rfl⟩⟩
    · simp [Value.cells] at hcs
      obtain ⟨rfl, rfl, rfl⟩ := hcs
      exact ⟨zs, .inr ⟨_, rfl, hl, hm, by simpa using hz, hcell, hwz⟩⟩
  obtain ⟨a1, len1, cap1, rfl⟩ := okWide_slice Try.underlying22 (hval 1 22 v1 rfl rfl)
  have k1 := h1
  have lt1 : ∀ x ∈ p1, x.block < W.heap.size := by obtain ⟨m, hm⟩ := k1; exact DataW.trod_lt m _ _ _ hm
  obtain ⟨z1, w1⟩ : ∃ zs, IsRow .u8 W a1 len1 cap1 zs := by
    obtain ⟨fuel, hf⟩ := h1
    rcases open_ints Try.underlying22 Try.underlying5 (by kernel_rfl) hf with ⟨hcs, _⟩ | ⟨x, l, c, zs, hcs, _, hl, hm, hz, _, hcell, hwz⟩
    · simp [Value.cells] at hcs
      obtain ⟨rfl, rfl, rfl⟩ := hcs
      exact ⟨[], .inl ⟨rfl, rfl, rfl, rfl⟩⟩
    · simp [Value.cells] at hcs
      obtain ⟨rfl, rfl, rfl⟩ := hcs
      exact ⟨zs, .inr ⟨_, rfl, hl, hm, by simpa using hz, hcell, hwz⟩⟩
  obtain ⟨a2, rfl, rfl, rfl, w2⟩ := open_int Try.underlying3 (hval 2 3 v2 rfl rfl) h2
  clear hA0 hval0
  refine (walk a0 len0 cap0 z0 a1 len1 cap1 z1 a2 W w0 w1 w2).mono fun e W' ⟨he, bel⟩ => ?_
  subst he
  exact ⟨_, rfl, _, _, _, [], _, [], hW', trodAll_mk1 (shut_bool Try.underlying4 _), (trodAll_cons_mk (Below.trod laidOut (by kernel_rfl) (of_decide_eq_true (by kernel_rfl)) k0 bel lt0) (trodAll_cons_mk (Below.trod laidOut (by kernel_rfl) (of_decide_eq_true (by kernel_rfl)) k1 bel lt1) (trodAll_cons_mk (shut_int Try.underlying3 w2) trodAll_mk0))), rfl, bel.frame _, fun h => by cases h⟩

/-! ### THE CLOSED FACTS OF THE ROW, ONE BY ONE -/
theorem k0 : Rows.fnNumberAfterDependsOnlyOnWhatFollowsRow.wf (OpenSpec.ofChange Rows.fnNumberAfterDependsOnlyOnWhatFollowsSpec) = true := by kernel_rfl
theorem k1 : laidOutB Try.pinned.checked.prog = true := by kernel_rfl
theorem k2 : mapsRowed Try.pinned.checked.prog = true := by kernel_rfl
theorem k3 : Try.f4.params.all (Try.pinned.checked.prog.readableRec ·) = true := by kernel_rfl
theorem k4 : namedTie Try.pinned.checked.prog Rows.fnNumberAfterDependsOnlyOnWhatFollowsRow.named Rows.fnNumberAfterDependsOnlyOnWhatFollowsSpec.vars = true := by kernel_rfl
theorem k5 : (Rows.fnNumberAfterDependsOnlyOnWhatFollowsRow.stops == []) = true := by kernel_rfl
theorem k6 : (Try.pinned.checked.prog.stops == []) = true := by kernel_rfl
theorem k7 : (Rows.fnNumberAfterDependsOnlyOnWhatFollowsRow.knobs == []) = true := by kernel_rfl
theorem k8 : (Try.pinned.checked.prog.stopKnobs == []) = true := by kernel_rfl
theorem k9 : (Rows.fnNumberAfterDependsOnlyOnWhatFollowsRow.inPlace == Try.pinned.checked.prog.inPlace 4) = true := by kernel_rfl
theorem k10 : (Rows.fnNumberAfterDependsOnlyOnWhatFollowsRow.unfollowed == Try.pinned.checked.prog.unfollowed 4) = true := by kernel_rfl
theorem k11 : (Rows.fnNumberAfterDependsOnlyOnWhatFollowsRow.recurses == Try.pinned.checked.prog.recurses 4) = true := by kernel_rfl
theorem k12 : (Rows.fnNumberAfterDependsOnlyOnWhatFollowsRow.named == Try.pinned.checked.prog.varsNamed 4) = true := by kernel_rfl
theorem k13 : (Rows.fnNumberAfterDependsOnlyOnWhatFollowsRow.maps == (Try.f4.params.toList ++ Rows.fnNumberAfterDependsOnlyOnWhatFollowsSpec.plain.varTypes Try.pinned.checked.prog).any (Try.pinned.checked.prog.mapsRec ·)) = true := by kernel_rfl
theorem k14 : (Rows.fnNumberAfterDependsOnlyOnWhatFollowsRow.ifaces == (Try.f4.params.toList ++ Rows.fnNumberAfterDependsOnlyOnWhatFollowsSpec.plain.varTypes Try.pinned.checked.prog).any (Try.pinned.checked.prog.ifacesRec ·)) = true := by kernel_rfl
theorem k15 : (Rows.fnNumberAfterDependsOnlyOnWhatFollowsRow.mapsOut == Try.pinned.checked.prog.mapsAmong Try.f4.resultTypes.toList) = true := by kernel_rfl
theorem k16 : (Rows.fnNumberAfterDependsOnlyOnWhatFollowsRow.loops == (Try.f4.params.toList ++ Rows.fnNumberAfterDependsOnlyOnWhatFollowsSpec.plain.varTypes Try.pinned.checked.prog).any (Try.pinned.checked.prog.loopsFrom ·)) = true := by kernel_rfl
theorem k17 : (Rows.fnNumberAfterDependsOnlyOnWhatFollowsRow.wideKeys == (Try.f4.params.toList ++ Rows.fnNumberAfterDependsOnlyOnWhatFollowsSpec.plain.varTypes Try.pinned.checked.prog ++ Try.f4.resultTypes.toList).any (Try.pinned.checked.prog.wideKeysFrom ·)) = true := by kernel_rfl
theorem k18 : Rows.fnNumberAfterDependsOnlyOnWhatFollowsSpec.vars.all (Try.pinned.checked.prog.varReadable ·) = true := by kernel_rfl
theorem k19 : Try.f4.resultTypes.all (fun t => Try.pinned.checked.prog.readableRec t && decide (t < Try.pinned.checked.prog.types.size)) = true := by kernel_rfl
theorem k20 : (Rows.fnNumberAfterDependsOnlyOnWhatFollowsRow.ifacesOut == Try.f4.resultTypes.toList.any (Try.pinned.checked.prog.ifacesRec ·)) = true := by kernel_rfl
theorem k21 : (Rows.fnNumberAfterDependsOnlyOnWhatFollowsRow.loopsOut == Try.f4.resultTypes.toList.any (Try.pinned.checked.prog.loopsFrom ·)) = true := by kernel_rfl
theorem k22 : (Rows.fnNumberAfterDependsOnlyOnWhatFollowsRow.plainKeys == Try.pinned.checked.prog.plainKeys) = true := by kernel_rfl
theorem k23 : Rows.fnNumberAfterDependsOnlyOnWhatFollowsRow.shortTexts.isNone = true := by kernel_rfl
theorem k24 : Try.pinned.checked.prog.stopsHeard = true := by kernel_rfl
theorem k25 : Try.pinned.checked.prog.mayEnter = true := Order.may
theorem k26 : (Rows.fnNumberAfterDependsOnlyOnWhatFollowsRow.lifted == Try.pinned.checked.prog.liftsFinal) = true := by rw [Order.lifts]; kernel_rfl
theorem k27 : (Try.pinned.checked.prog.make == some Rows.fnNumberAfterDependsOnlyOnWhatFollowsRow.make) = true := by rw [Order.make]; kernel_rfl
theorem k28 : (Rows.fnNumberAfterDependsOnlyOnWhatFollowsRow.kinds == (if Rows.fnNumberAfterDependsOnlyOnWhatFollowsRow.domain.isEmpty then [] else Try.f4.params.toList.map fun t => match Try.pinned.checked.prog.underlying t with | some (.int k) => some k | _ => none)) = true := by kernel_rfl
theorem k29 : (Rows.fnNumberAfterDependsOnlyOnWhatFollowsRow.pinned == Rows.fnNumberAfterDependsOnlyOnWhatFollowsRow.pinnedBy) = true := by kernel_rfl
theorem k30 : (Rows.fnNumberAfterDependsOnlyOnWhatFollowsRow.veiled == (Try.f4.params.toList ++ Rows.fnNumberAfterDependsOnlyOnWhatFollowsSpec.plain.varTypes Try.pinned.checked.prog ++ Try.f4.resultTypes.toList).any (Try.pinned.checked.prog.veiledRec ·)) = true := by kernel_rfl
theorem k31 : Rows.fnNumberAfterDependsOnlyOnWhatFollowsRow.veiledFits Try.pinned.checked.prog Try.f4.params.toList (Try.f4.params.toList ++ Rows.fnNumberAfterDependsOnlyOnWhatFollowsSpec.plain.varTypes Try.pinned.checked.prog ++ Try.f4.resultTypes.toList) = true := by kernel_rfl
theorem joined : joinedFacts Try.pinned.checked.prog 4 Try.f4 Rows.fnNumberAfterDependsOnlyOnWhatFollowsSpec Rows.fnNumberAfterDependsOnlyOnWhatFollowsRow = true := by unfold joinedFacts; exact (Order.and2 (Order.and2 (Order.and2 (Order.and2 (Order.and2 (Order.and2 (Order.and2 (Order.and2 (Order.and2 (Order.and2 (Order.and2 (Order.and2 (Order.and2 (Order.and2 (Order.and2 (Order.and2 (Order.and2 (Order.and2 (Order.and2 (Order.and2 (Order.and2 (Order.and2 (Order.and2 (Order.and2 (Order.and2 (Order.and2 (Order.and2 (Order.and2 (Order.and2 (Order.and2 (Order.and2 k0 k1) k2) k3) k4) k5) k6) k7) k8) k9) k10) k11) k12) k13) k14) k15) k16) k17) k18) k19) k20) k21) k22) k23) k24) k25) k26) k27) k28) k29) k30) k31)
theorem named : Try.pinned.checked.prog.funcNamed Rows.fnNumberAfterDependsOnlyOnWhatFollowsRow.func = some 4 := by kernel_rfl
theorem inst : Try.f4.isInstance Try.pinned.checked.prog Rows.fnNumberAfterDependsOnlyOnWhatFollowsRow.origin Rows.fnNumberAfterDependsOnlyOnWhatFollowsRow.targs := of_decide_eq_true (by kernel_rfl)
theorem wrap : Try.f4.isWrapper Try.pinned.checked.prog Rows.fnNumberAfterDependsOnlyOnWhatFollowsRow.wrapper Rows.fnNumberAfterDependsOnlyOnWhatFollowsRow.mainSum := by unfold Func.isWrapper; first | (rw [if_pos (by decide +kernel)]; kernel_rfl) | (rw [if_neg (by decide +kernel)]; exact ⟨rfl, rfl⟩)

theorem over : Rows.fnNumberAfterDependsOnlyOnWhatFollowsRow.holds Try.pinned (OpenSpec.ofChange Rows.fnNumberAfterDependsOnlyOnWhatFollowsSpec) :=
  OpenClaim.holds_of_wide 4 Try.f4 rfl rfl rfl rfl rfl rfl rfl ⟨rfl, rfl, rfl, rfl, rfl⟩ rfl rfl rfl rfl rfl named Try.func4 joined inst wrap
    (fun os started H enc _ => lifted os started H enc)

/-- ████ THE STATEMENT ████ -/
theorem proved : Rows.FnNumberAfterDependsOnlyOnWhatFollowsSaid := over
#print axioms proved
end Go.Proofs.Qxb6600068a.fnNumberAfterDependsOnlyOnWhatFollows
