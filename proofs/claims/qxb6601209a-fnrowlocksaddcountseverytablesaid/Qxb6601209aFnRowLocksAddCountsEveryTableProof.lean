/-
  'Rows.FnRowLocksAddCountsEveryTableSaid', PROVED. The frame after the shells of this seat (a slice of strings and a string); its closed facts one by one; the walk: Qxb6601209aLockLaw.lean.
-/
import Derived.Test.Qxb6601209aRows
import Derived.WalkKit
import Derived.ProofKit
import Derived.OpenShut
import Derived.ShutString
import Derived.ChangeOld
import Derived.Below
import Derived.SliceStrings
import Derived.Test.Qxb6601209aLockLaw
import Derived.Test.Qxb6601209aOrder
namespace Go.Proofs.Qxb6601209a.fnRowLocksAddCountsEveryTable
open Go.ChangeShapes Go.WideShapes Go.ChangeAt Go.RowKit
open Go.ChangeMaps (open_string shut_string)
set_option linter.unusedVariables false

theorem own : ownKnob Try.prog.godebug = none := by kernel_rfl
theorem laidOut : laidOutB Try.prog = true := by kernel_rfl

/-! ### THE ROW's STEP -/
set_option maxRecDepth 100000 in
theorem lifted (os : Os) (started : os.Started) (H : Type) (enc : TypeId × Value → H) :
    ReturnsInHanded {} Try.checked os 5 .any (Rows.fnRowLocksAddCountsEveryTableSpec.pre6 enc Try.prog Try.f5 Rows.fnRowLocksAddCountsEveryTableRow.domain false) (Rows.fnRowLocksAddCountsEveryTableSpec.post enc Try.prog Try.f5 false true false false) := by
  refine returnsInHanded_of_change (C := Try.checked) own started (by kernel_rfl) Try.func5
    (ChangeSpec.witness6 (enc := enc) (C := Try.checked) false ⟨#[], #[.slice none 0 0, .string ByteArray.empty], []⟩ 8 (by kernel_rfl) (by kernel_rfl) (by kernel_rfl) (by kernel_rfl)) ?_
  intro W base args ds gs before hval0 hW hcnd _
  have hval : ∀ (j : Nat) t v, Try.f5.params[j]? = some t → args[j]? = some v → Value.okWide Try.prog W .any base t v := hval0
  have hW' := hW
  obtain ⟨p, q, hA0, hV, rfl, hfz, hnd⟩ := hW
  have hA : DataW.TrodAll enc Try.prog W 0 (fun _ => true) true Try.f5.params.toList args.toList ds p := hA0
  rw [Try.params5] at hA hval
  obtain ⟨v0, vs0, d0, ds0, p0, q0, hargs, rfl, rfl, h0, r0⟩ := trodAll_cons hA
  obtain ⟨v1, vs1, d1, ds1, p1, q1, rfl, rfl, rfl, h1, r1⟩ := trodAll_cons r0
  obtain ⟨rfl, rfl, rfl⟩ := trodAll_nil r1
  obtain rfl : args = #[v0, v1] := by cases args; simp_all
  obtain ⟨rfl, rfl⟩ := trodVars_none hV
  obtain ⟨a0, len0, cap0, rfl⟩ := okWide_slice Try.underlying26 (hval 0 26 v0 rfl rfl)
  have k0 := h0
  have lt0 : ∀ x ∈ p0, x.block < W.heap.size := by obtain ⟨m, hm⟩ := k0; exact DataW.trod_lt m _ _ _ hm
  obtain ⟨z0, w0⟩ : ∃ ss, IsStrs W a0 len0 cap0 ss := by
    obtain ⟨fuel, hf⟩ := h0
    rcases open_strings Try.underlying26 Try.underlying9 (by kernel_rfl) hf with ⟨hcs, _⟩ | ⟨x, l, c, zs, hcs, _, hl, hm, hz, _, hcell, hwz⟩
    · simp [Value.cells] at hcs
      obtain ⟨rfl, rfl, rfl⟩ := hcs
      exact ⟨[], .inl ⟨rfl, rfl, rfl, rfl⟩⟩
    · simp [Value.cells] at hcs
      obtain ⟨rfl, rfl, rfl⟩ := hcs
      exact ⟨zs, .inr ⟨_, rfl, hl, hm, by simpa using hz, hcell, hwz⟩⟩
  obtain ⟨a1, rfl, rfl, rfl, w1⟩ := open_string Try.underlying9 (hval 1 9 v1 rfl rfl) h1
  clear hA0 hval0
  refine (walk a0 len0 cap0 z0 a1 W w0 w1).mono fun e W' ⟨he, bel⟩ => ?_
  subst he
  exact ⟨_, rfl, _, _, _, [], _, [], hW', trodAll_mk1 (shut_bool Try.underlying4 _), (trodAll_cons_mk (Below.trod laidOut (by kernel_rfl) (of_decide_eq_true (by kernel_rfl)) k0 bel lt0) (trodAll_cons_mk (shut_string Try.underlying9 w1) trodAll_mk0)), rfl, bel.frame _, fun h => by cases h⟩

/-! ### THE CLOSED FACTS OF THE ROW, ONE BY ONE -/
theorem k0 : Rows.fnRowLocksAddCountsEveryTableRow.wf (OpenSpec.ofChange Rows.fnRowLocksAddCountsEveryTableSpec) = true := by kernel_rfl
theorem k1 : laidOutB Try.pinned.checked.prog = true := by kernel_rfl
theorem k2 : mapsRowed Try.pinned.checked.prog = true := by kernel_rfl
theorem k3 : Try.f5.params.all (Try.pinned.checked.prog.readableRec ·) = true := by kernel_rfl
theorem k4 : namedTie Try.pinned.checked.prog Rows.fnRowLocksAddCountsEveryTableRow.named Rows.fnRowLocksAddCountsEveryTableSpec.vars = true := by kernel_rfl
theorem k5 : (Rows.fnRowLocksAddCountsEveryTableRow.stops == []) = true := by kernel_rfl
theorem k6 : (Try.pinned.checked.prog.stops == []) = true := by kernel_rfl
theorem k7 : (Rows.fnRowLocksAddCountsEveryTableRow.knobs == []) = true := by kernel_rfl
theorem k8 : (Try.pinned.checked.prog.stopKnobs == []) = true := by kernel_rfl
theorem k9 : (Rows.fnRowLocksAddCountsEveryTableRow.inPlace == Try.pinned.checked.prog.inPlace 5) = true := by kernel_rfl
theorem k10 : (Rows.fnRowLocksAddCountsEveryTableRow.unfollowed == Try.pinned.checked.prog.unfollowed 5) = true := by kernel_rfl
theorem k11 : (Rows.fnRowLocksAddCountsEveryTableRow.recurses == Try.pinned.checked.prog.recurses 5) = true := by kernel_rfl
theorem k12 : (Rows.fnRowLocksAddCountsEveryTableRow.named == Try.pinned.checked.prog.varsNamed 5) = true := by kernel_rfl
theorem k13 : (Rows.fnRowLocksAddCountsEveryTableRow.maps == (Try.f5.params.toList ++ Rows.fnRowLocksAddCountsEveryTableSpec.plain.varTypes Try.pinned.checked.prog).any (Try.pinned.checked.prog.mapsRec ·)) = true := by kernel_rfl
theorem k14 : (Rows.fnRowLocksAddCountsEveryTableRow.ifaces == (Try.f5.params.toList ++ Rows.fnRowLocksAddCountsEveryTableSpec.plain.varTypes Try.pinned.checked.prog).any (Try.pinned.checked.prog.ifacesRec ·)) = true := by kernel_rfl
theorem k15 : (Rows.fnRowLocksAddCountsEveryTableRow.mapsOut == Try.pinned.checked.prog.mapsAmong Try.f5.resultTypes.toList) = true := by kernel_rfl
theorem k16 : (Rows.fnRowLocksAddCountsEveryTableRow.loops == (Try.f5.params.toList ++ Rows.fnRowLocksAddCountsEveryTableSpec.plain.varTypes Try.pinned.checked.prog).any (Try.pinned.checked.prog.loopsFrom ·)) = true := by kernel_rfl
theorem k17 : (Rows.fnRowLocksAddCountsEveryTableRow.wideKeys == (Try.f5.params.toList ++ Rows.fnRowLocksAddCountsEveryTableSpec.plain.varTypes Try.pinned.checked.prog ++ Try.f5.resultTypes.toList).any (Try.pinned.checked.prog.wideKeysFrom ·)) = true := by kernel_rfl
theorem k18 : Rows.fnRowLocksAddCountsEveryTableSpec.vars.all (Try.pinned.checked.prog.varReadable ·) = true := by kernel_rfl
theorem k19 : Try.f5.resultTypes.all (fun t => Try.pinned.checked.prog.readableRec t && decide (t < Try.pinned.checked.prog.types.size)) = true := by kernel_rfl
theorem k20 : (Rows.fnRowLocksAddCountsEveryTableRow.ifacesOut == Try.f5.resultTypes.toList.any (Try.pinned.checked.prog.ifacesRec ·)) = true := by kernel_rfl
theorem k21 : (Rows.fnRowLocksAddCountsEveryTableRow.loopsOut == Try.f5.resultTypes.toList.any (Try.pinned.checked.prog.loopsFrom ·)) = true := by kernel_rfl
theorem k22 : (Rows.fnRowLocksAddCountsEveryTableRow.plainKeys == Try.pinned.checked.prog.plainKeys) = true := by kernel_rfl
theorem k23 : Rows.fnRowLocksAddCountsEveryTableRow.shortTexts.isNone = true := by kernel_rfl
theorem k24 : Try.pinned.checked.prog.stopsHeard = true := by kernel_rfl
theorem k25 : Try.pinned.checked.prog.mayEnter = true := Order.may
theorem k26 : (Rows.fnRowLocksAddCountsEveryTableRow.lifted == Try.pinned.checked.prog.liftsFinal) = true := by rw [Order.lifts]; kernel_rfl
theorem k27 : (Try.pinned.checked.prog.make == some Rows.fnRowLocksAddCountsEveryTableRow.make) = true := by rw [Order.make]; kernel_rfl
theorem k28 : (Rows.fnRowLocksAddCountsEveryTableRow.kinds == (if Rows.fnRowLocksAddCountsEveryTableRow.domain.isEmpty then [] else Try.f5.params.toList.map fun t => match Try.pinned.checked.prog.underlying t with | some (.int k) => some k | _ => none)) = true := by kernel_rfl
theorem k29 : (Rows.fnRowLocksAddCountsEveryTableRow.pinned == Rows.fnRowLocksAddCountsEveryTableRow.pinnedBy) = true := by kernel_rfl
theorem k30 : (Rows.fnRowLocksAddCountsEveryTableRow.veiled == (Try.f5.params.toList ++ Rows.fnRowLocksAddCountsEveryTableSpec.plain.varTypes Try.pinned.checked.prog ++ Try.f5.resultTypes.toList).any (Try.pinned.checked.prog.veiledRec ·)) = true := by kernel_rfl
theorem k31 : Rows.fnRowLocksAddCountsEveryTableRow.veiledFits Try.pinned.checked.prog Try.f5.params.toList (Try.f5.params.toList ++ Rows.fnRowLocksAddCountsEveryTableSpec.plain.varTypes Try.pinned.checked.prog ++ Try.f5.resultTypes.toList) = true := by kernel_rfl
theorem joined : joinedFacts Try.pinned.checked.prog 5 Try.f5 Rows.fnRowLocksAddCountsEveryTableSpec Rows.fnRowLocksAddCountsEveryTableRow = true := by unfold joinedFacts; exact (Order.and2 (Order.and2 (Order.and2 (Order.and2 (Order.and2 (Order.and2 (Order.and2 (Order.and2 (Order.and2 (Order.and2 (Order.and2 (Order.and2 (Order.and2 (Order.and2 (Order.and2 (Order.and2 (Order.and2 (Order.and2 (Order.and2 (Order.and2 (Order.and2 (Order.and2 (Order.and2 (Order.and2 (Order.and2 (Order.and2 (Order.and2 (Order.and2 (Order.and2 (Order.and2 (Order.and2 k0 k1) k2) k3) k4) k5) k6) k7) k8) k9) k10) k11) k12) k13) k14) k15) k16) k17) k18) k19) k20) k21) k22) k23) k24) k25) k26) k27) k28) k29) k30) k31)
theorem named : Try.pinned.checked.prog.funcNamed Rows.fnRowLocksAddCountsEveryTableRow.func = some 5 := by kernel_rfl
theorem inst : Try.f5.isInstance Try.pinned.checked.prog Rows.fnRowLocksAddCountsEveryTableRow.origin Rows.fnRowLocksAddCountsEveryTableRow.targs := of_decide_eq_true (by kernel_rfl)
theorem wrap : Try.f5.isWrapper Try.pinned.checked.prog Rows.fnRowLocksAddCountsEveryTableRow.wrapper Rows.fnRowLocksAddCountsEveryTableRow.mainSum := by unfold Func.isWrapper; first | (rw [if_pos (by decide +kernel)]; kernel_rfl) | (rw [if_neg (by decide +kernel)]; exact ⟨rfl, rfl⟩)

theorem over : Rows.fnRowLocksAddCountsEveryTableRow.holds Try.pinned (OpenSpec.ofChange Rows.fnRowLocksAddCountsEveryTableSpec) :=
  OpenClaim.holds_of_wide 5 Try.f5 rfl rfl rfl rfl rfl rfl rfl ⟨rfl, rfl, rfl, rfl, rfl⟩ rfl rfl rfl rfl rfl named Try.func5 joined inst wrap
    (fun os started H enc _ => lifted os started H enc)

/-- ████ THE STATEMENT ████ -/
theorem proved : Rows.FnRowLocksAddCountsEveryTableSaid := over
#print axioms proved
end Go.Proofs.Qxb6601209a.fnRowLocksAddCountsEveryTable
