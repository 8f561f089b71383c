/-
  'Rows.FnHex4OfHexDigitsEncodesBackToThemSaid', PROVED. The frame is the shell's own, but for its closed facts: they are laid one by one (in one declaration the kernel outgrew its lid); the walk: Qxb6600068aOfHexWalk.lean.
-/
import Derived.Test.Qxb6600068aRows
import Derived.WalkKit
import Derived.ProofKit
import Derived.OpenShut
import Derived.ShutString
import Derived.ChangeOld
import Derived.Below
import Derived.Test.Qxb6600068aOfHexWalk
import Derived.Test.Qxb6600068aOrder
namespace Go.Proofs.Qxb6600068a.fnHex4OfHexDigitsEncodesBackToThem
open Go.ChangeShapes Go.WideShapes Go.ChangeAt Go.RowKit
open Go.ChangeMaps (open_string shut_string)
set_option linter.unusedVariables false

theorem own : ownKnob Try.prog.godebug = none := by kernel_rfl
theorem laidOut : laidOutB Try.prog = true := by kernel_rfl

/-! ### THE ROW's STEP: WRITTEN OUT: LEAVE IT -/
set_option maxRecDepth 100000 in
theorem lifted (os : Os) (started : os.Started) (H : Type) (enc : TypeId × Value → H) :
    ReturnsInHanded {} Try.checked os 7 .any (Rows.fnHex4OfHexDigitsEncodesBackToThemSpec.pre6 enc Try.prog Try.f7 Rows.fnHex4OfHexDigitsEncodesBackToThemRow.domain false) (Rows.fnHex4OfHexDigitsEncodesBackToThemSpec.post enc Try.prog Try.f7 false true false false) := by
  refine returnsInHanded_of_change (C := Try.checked) own started (by kernel_rfl) Try.func7
    (ChangeSpec.witness6 (enc := enc) (C := Try.checked) false ⟨#[], #[.slice none 0 0], []⟩ 8 (by kernel_rfl) (by kernel_rfl) (by kernel_rfl) (by kernel_rfl)) ?_
  intro W base args ds gs before hval0 hW hcnd _
  have hval : ∀ (j : Nat) t v, Try.f7.params[j]? = some t → args[j]? = some v → Value.okWide Try.prog W .any base t v := hval0
  have hW' := hW
  obtain ⟨p, q, hA0, hV, rfl, hfz, hnd⟩ := hW
  have hA : DataW.TrodAll enc Try.prog W 0 (fun _ => true) true Try.f7.params.toList args.toList ds p := hA0
  rw [Try.params7] at hA hval
  obtain ⟨v0, vs0, d0, ds0, p0, q0, hargs, rfl, rfl, h0, r0⟩ := trodAll_cons hA
  obtain ⟨rfl, rfl, rfl⟩ := trodAll_nil r0
  obtain rfl : args = #[v0] := by cases args; simp_all
  obtain ⟨rfl, rfl⟩ := trodVars_none hV
  obtain ⟨a0, len0, cap0, rfl⟩ := okWide_slice Try.underlying22 (hval 0 22 v0 rfl rfl)
  have k0 := h0
  have lt0 : ∀ x ∈ p0, x.block < W.heap.size := by obtain ⟨m, hm⟩ := k0; exact DataW.trod_lt m _ _ _ hm
  obtain ⟨z0, w0⟩ : ∃ zs, IsRow .u8 W a0 len0 cap0 zs := by
    obtain ⟨fuel, hf⟩ := h0
    rcases open_ints Try.underlying22 Try.underlying5 (by kernel_rfl) hf with ⟨hcs, _⟩ | ⟨x, l, c, zs, hcs, _, hl, hm, hz, _, hcell, hwz⟩
    · simp [Value.cells] at hcs
      obtain ⟨rfl, rfl, rfl⟩ := hcs
      exact ⟨[], .inl ⟨rfl, rfl, rfl, rfl⟩⟩
    · simp [Value.cells] at hcs
      obtain ⟨rfl, rfl, rfl⟩ := hcs
      exact ⟨zs, .inr ⟨_, rfl, hl, hm, by simpa using hz, hcell, hwz⟩⟩
  clear hA0 hval0
  refine (walk a0 len0 cap0 z0 W w0).mono fun e W' ⟨he, bel⟩ => ?_
  subst he
  exact ⟨_, rfl, _, _, _, [], _, [], hW', trodAll_mk1 (shut_bool Try.underlying4 _), (trodAll_cons_mk (Below.trod laidOut (by kernel_rfl) (of_decide_eq_true (by kernel_rfl)) k0 bel lt0) trodAll_mk0), rfl, bel.frame _, fun h => by cases h⟩

/-! ### THE CLOSED FACTS OF THE ROW, ONE BY ONE -/
theorem k0 : Rows.fnHex4OfHexDigitsEncodesBackToThemRow.wf (OpenSpec.ofChange Rows.fnHex4OfHexDigitsEncodesBackToThemSpec) = true := by kernel_rfl
theorem k1 : laidOutB Try.pinned.checked.prog = true := by kernel_rfl
theorem k2 : mapsRowed Try.pinned.checked.prog = true := by kernel_rfl
theorem k3 : Try.f7.params.all (Try.pinned.checked.prog.readableRec ·) = true := by kernel_rfl
theorem k4 : namedTie Try.pinned.checked.prog Rows.fnHex4OfHexDigitsEncodesBackToThemRow.named Rows.fnHex4OfHexDigitsEncodesBackToThemSpec.vars = true := by kernel_rfl
theorem k5 : (Rows.fnHex4OfHexDigitsEncodesBackToThemRow.stops == []) = true := by kernel_rfl
theorem k6 : (Try.pinned.checked.prog.stops == []) = true := by kernel_rfl
theorem k7 : (Rows.fnHex4OfHexDigitsEncodesBackToThemRow.knobs == []) = true := by kernel_rfl
theorem k8 : (Try.pinned.checked.prog.stopKnobs == []) = true := by kernel_rfl
theorem k9 : (Rows.fnHex4OfHexDigitsEncodesBackToThemRow.inPlace == Try.pinned.checked.prog.inPlace 7) = true := by kernel_rfl
theorem k10 : (Rows.fnHex4OfHexDigitsEncodesBackToThemRow.unfollowed == Try.pinned.checked.prog.unfollowed 7) = true := by kernel_rfl
theorem k11 : (Rows.fnHex4OfHexDigitsEncodesBackToThemRow.recurses == Try.pinned.checked.prog.recurses 7) = true := by kernel_rfl
theorem k12 : (Rows.fnHex4OfHexDigitsEncodesBackToThemRow.named == Try.pinned.checked.prog.varsNamed 7) = true := by kernel_rfl
theorem k13 : (Rows.fnHex4OfHexDigitsEncodesBackToThemRow.maps == (Try.f7.params.toList ++ Rows.fnHex4OfHexDigitsEncodesBackToThemSpec.plain.varTypes Try.pinned.checked.prog).any (Try.pinned.checked.prog.mapsRec ·)) = true := by kernel_rfl
theorem k14 : (Rows.fnHex4OfHexDigitsEncodesBackToThemRow.ifaces == (Try.f7.params.toList ++ Rows.fnHex4OfHexDigitsEncodesBackToThemSpec.plain.varTypes Try.pinned.checked.prog).any (Try.pinned.checked.prog.ifacesRec ·)) = true := by kernel_rfl
theorem k15 : (Rows.fnHex4OfHexDigitsEncodesBackToThemRow.mapsOut == Try.pinned.checked.prog.mapsAmong Try.f7.resultTypes.toList) = true := by kernel_rfl
theorem k16 : (Rows.fnHex4OfHexDigitsEncodesBackToThemRow.loops == (Try.f7.params.toList ++ Rows.fnHex4OfHexDigitsEncodesBackToThemSpec.plain.varTypes Try.pinned.checked.prog).any (Try.pinned.checked.prog.loopsFrom ·)) = true := by kernel_rfl
theorem k17 : (Rows.fnHex4OfHexDigitsEncodesBackToThemRow.wideKeys == (Try.f7.params.toList ++ Rows.fnHex4OfHexDigitsEncodesBackToThemSpec.plain.varTypes Try.pinned.checked.prog ++ Try.f7.resultTypes.toList).any (Try.pinned.checked.prog.wideKeysFrom ·)) = true := by kernel_rfl
theorem k18 : Rows.fnHex4OfHexDigitsEncodesBackToThemSpec.vars.all (Try.pinned.checked.prog.varReadable ·) = true := by kernel_rfl
theorem k19 : Try.f7.resultTypes.all (fun t => Try.pinned.checked.prog.readableRec t && decide (t < Try.pinned.checked.prog.types.size)) = true := by kernel_rfl
theorem k20 : (Rows.fnHex4OfHexDigitsEncodesBackToThemRow.ifacesOut == Try.f7.resultTypes.toList.any (Try.pinned.checked.prog.ifacesRec ·)) = true := by kernel_rfl
theorem k21 : (Rows.fnHex4OfHexDigitsEncodesBackToThemRow.loopsOut == Try.f7.resultTypes.toList.any (Try.pinned.checked.prog.loopsFrom ·)) = true := by kernel_rfl
theorem k22 : (Rows.fnHex4OfHexDigitsEncodesBackToThemRow.plainKeys == Try.pinned.checked.prog.plainKeys) = true := by kernel_rfl
theorem k23 : Rows.fnHex4OfHexDigitsEncodesBackToThemRow.shortTexts.isNone = true := by kernel_rfl
theorem k24 : Try.pinned.checked.prog.stopsHeard = true := by kernel_rfl
theorem k25 : Try.pinned.checked.prog.mayEnter = true := Order.may
theorem k26 : (Rows.fnHex4OfHexDigitsEncodesBackToThemRow.lifted == Try.pinned.checked.prog.liftsFinal) = true := by rw [Order.lifts]; kernel_rfl
theorem k27 : (Try.pinned.checked.prog.make == some Rows.fnHex4OfHexDigitsEncodesBackToThemRow.make) = true := by rw [Order.make]; kernel_rfl
theorem k28 : (Rows.fnHex4OfHexDigitsEncodesBackToThemRow.kinds == (if Rows.fnHex4OfHexDigitsEncodesBackToThemRow.domain.isEmpty then [] else Try.f7.params.toList.map fun t => match Try.pinned.checked.prog.underlying t with | some (.int k) => some k | _ => none)) = true := by kernel_rfl
theorem k29 : (Rows.fnHex4OfHexDigitsEncodesBackToThemRow.pinned == Rows.fnHex4OfHexDigitsEncodesBackToThemRow.pinnedBy) = true := by kernel_rfl
theorem k30 : (Rows.fnHex4OfHexDigitsEncodesBackToThemRow.veiled == (Try.f7.params.toList ++ Rows.fnHex4OfHexDigitsEncodesBackToThemSpec.plain.varTypes Try.pinned.checked.prog ++ Try.f7.resultTypes.toList).any (Try.pinned.checked.prog.veiledRec ·)) = true := by kernel_rfl
theorem k31 : Rows.fnHex4OfHexDigitsEncodesBackToThemRow.veiledFits Try.pinned.checked.prog Try.f7.params.toList (Try.f7.params.toList ++ Rows.fnHex4OfHexDigitsEncodesBackToThemSpec.plain.varTypes Try.pinned.checked.prog ++ Try.f7.resultTypes.toList) = true := by kernel_rfl
theorem joined : joinedFacts Try.pinned.checked.prog 7 Try.f7 Rows.fnHex4OfHexDigitsEncodesBackToThemSpec Rows.fnHex4OfHexDigitsEncodesBackToThemRow = true := by unfold joinedFacts; exact (Order.and2 (Order.and2 (Order.and2 (Order.and2 (Order.and2 (Order.and2 (Order.and2 (Order.and2 (Order.and2 (Order.and2 (Order.and2 (Order.and2 (Order.and2 (Order.and2 (Order.and2 (Order.and2 (Order.and2 (Order.and2 (Order.and2 (Order.and2 (Order.and2 (Order.and2 (Order.and2 (Order.and2 (Order.and2 (Order.and2 (Order.and2 (Order.and2 (Order.and2 (Order.and2 (Order.and2 k0 k1) k2) k3) k4) k5) k6) k7) k8) k9) k10) k11) k12) k13) k14) k15) k16) k17) k18) k19) k20) k21) k22) k23) k24) k25) k26) k27) k28) k29) k30) k31)
theorem named : Try.pinned.checked.prog.funcNamed Rows.fnHex4OfHexDigitsEncodesBackToThemRow.func = some 7 := by kernel_rfl
theorem inst : Try.f7.isInstance Try.pinned.checked.prog Rows.fnHex4OfHexDigitsEncodesBackToThemRow.origin Rows.fnHex4OfHexDigitsEncodesBackToThemRow.targs := of_decide_eq_true (by kernel_rfl)
theorem wrap : Try.f7.isWrapper Try.pinned.checked.prog Rows.fnHex4OfHexDigitsEncodesBackToThemRow.wrapper Rows.fnHex4OfHexDigitsEncodesBackToThemRow.mainSum := by unfold Func.isWrapper; first | (rw [if_pos (by decide +kernel)]; kernel_rfl) | (rw [if_neg (by decide +kernel)]; exact ⟨rfl, rfl⟩)

theorem over : Rows.fnHex4OfHexDigitsEncodesBackToThemRow.holds Try.pinned (OpenSpec.ofChange Rows.fnHex4OfHexDigitsEncodesBackToThemSpec) :=
  OpenClaim.holds_of_wide 7 Try.f7 rfl rfl rfl rfl rfl rfl rfl ⟨rfl, rfl, rfl, rfl, rfl⟩ rfl rfl rfl rfl rfl named Try.func7 joined inst wrap
    (fun os started H enc _ => lifted os started H enc)

/-- ████ THE STATEMENT ████ -/
theorem proved : Rows.FnHex4OfHexDigitsEncodesBackToThemSaid := over
#print axioms proved
end Go.Proofs.Qxb6600068a.fnHex4OfHexDigitsEncodesBackToThem
