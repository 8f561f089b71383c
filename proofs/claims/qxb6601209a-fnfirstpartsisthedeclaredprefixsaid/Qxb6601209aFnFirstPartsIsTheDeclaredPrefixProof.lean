/-
  'Rows.FnFirstPartsIsTheDeclaredPrefixSaid', PROVED. The frame is the shell's own, but for its closed facts: they are laid one by one (in one declaration the kernel outgrew its lid); the walk: Qxb6601209aPartsLaw.lean.
-/
import Derived.Test.Qxb6601209aRows
import Derived.WalkKit
import Derived.ProofKit
import Derived.OpenShut
import Derived.Test.Qxb6601209aPartsLaw
import Derived.Test.Qxb6601209aOrder
import Derived.ShutString
namespace Go.Proofs.Qxb6601209a.fnFirstPartsIsTheDeclaredPrefix
open Go.ChangeShapes Go.WideShapes Go.ChangeAt Go.RowKit
open Go.ChangeMaps (open_string shut_string)
set_option linter.unusedVariables false      -- a walk need not use every 'w<i>' (that an integer argument fits its kind)

theorem own : ownKnob Try.prog.godebug = none := by kernel_rfl

/-! ### THE ROW's STEP: WRITTEN OUT: LEAVE IT -/
set_option maxRecDepth 100000 in
theorem lifted (os : Os) (started : os.Started) (H : Type) (enc : TypeId × Value → H) :
    ReturnsInHanded {} Try.checked os 3 .any (Rows.fnFirstPartsIsTheDeclaredPrefixSpec.pre6 enc Try.prog Try.f3 Rows.fnFirstPartsIsTheDeclaredPrefixRow.domain false) (Rows.fnFirstPartsIsTheDeclaredPrefixSpec.post enc Try.prog Try.f3 false true false false) := by
  refine returnsInHanded_of_change (C := Try.checked) own started (by kernel_rfl) Try.func3
    (ChangeSpec.witness6 (enc := enc) (C := Try.checked) false ⟨#[], #[.string ByteArray.empty, .int .i64 0], []⟩ 8 (by kernel_rfl) (by kernel_rfl) (by kernel_rfl) (by kernel_rfl)) ?_
  intro W base args ds gs before hval0 hW hcnd _
  have hval : ∀ (j : Nat) t v, Try.f3.params[j]? = some t → args[j]? = some v → Value.okWide Try.prog W .any base t v := hval0
  have hW' := hW
  obtain ⟨p, q, hA0, hV, rfl, hfz, hnd⟩ := hW
  have hA : DataW.TrodAll enc Try.prog W 0 (fun _ => true) true Try.f3.params.toList args.toList ds p := hA0
  rw [Try.params3] at hA hval
  obtain ⟨v0, vs0, d0, ds0, p0, q0, hargs, rfl, rfl, h0, r0⟩ := trodAll_cons hA
  obtain ⟨v1, vs1, d1, ds1, p1, q1, rfl, rfl, rfl, h1, r1⟩ := trodAll_cons r0
  obtain ⟨rfl, rfl, rfl⟩ := trodAll_nil r1
  obtain rfl : args = #[v0, v1] := by cases args; simp_all
  obtain ⟨rfl, rfl⟩ := trodVars_none hV
  obtain ⟨a0, rfl, rfl, rfl, w0⟩ := open_string Try.underlying9 (hval 0 9 v0 rfl rfl) h0
  obtain ⟨a1, rfl, rfl, rfl, w1⟩ := open_int Try.underlying3 (hval 1 3 v1 rfl rfl) h1
  clear hA0 hval0
  simp only [List.append_nil] at hW'
  refine (walk a0 a1 w0 w1 W).mono fun e W' ⟨he, hg⟩ => ?_
  subst he
  exact ⟨_, rfl, post_of_same (pa := []) (pv := []) hW' (fun _ _ _ => (trodAll_cons_mk (shut_bool Try.underlying4 _) trodAll_mk0)) (fun sp _ => (trodAll_cons_mk (shut_string Try.underlying9 w0) (trodAll_cons_mk (shut_int Try.underlying3 w1) trodAll_mk0))) (fun _ _ => rfl) rfl
    (hg.frame _) hg.2.1 (ok_one (by kernel_rfl) rfl (okWide_bool_mk Try.underlying4 _))⟩

/-! ### THE CLOSED FACTS OF THE ROW, ONE BY ONE -/
theorem k0 : Rows.fnFirstPartsIsTheDeclaredPrefixRow.wf (OpenSpec.ofChange Rows.fnFirstPartsIsTheDeclaredPrefixSpec) = true := by kernel_rfl
theorem k1 : laidOutB Try.pinned.checked.prog = true := by kernel_rfl
theorem k2 : mapsRowed Try.pinned.checked.prog = true := by kernel_rfl
theorem k3 : Try.f3.params.all (Try.pinned.checked.prog.readableRec ·) = true := by kernel_rfl
theorem k4 : namedTie Try.pinned.checked.prog Rows.fnFirstPartsIsTheDeclaredPrefixRow.named Rows.fnFirstPartsIsTheDeclaredPrefixSpec.vars = true := by kernel_rfl
theorem k5 : (Rows.fnFirstPartsIsTheDeclaredPrefixRow.stops == []) = true := by kernel_rfl
theorem k6 : (Try.pinned.checked.prog.stops == []) = true := by kernel_rfl
theorem k7 : (Rows.fnFirstPartsIsTheDeclaredPrefixRow.knobs == []) = true := by kernel_rfl
theorem k8 : (Try.pinned.checked.prog.stopKnobs == []) = true := by kernel_rfl
theorem k9 : (Rows.fnFirstPartsIsTheDeclaredPrefixRow.inPlace == Try.pinned.checked.prog.inPlace 3) = true := by kernel_rfl
theorem k10 : (Rows.fnFirstPartsIsTheDeclaredPrefixRow.unfollowed == Try.pinned.checked.prog.unfollowed 3) = true := by kernel_rfl
theorem k11 : (Rows.fnFirstPartsIsTheDeclaredPrefixRow.recurses == Try.pinned.checked.prog.recurses 3) = true := by kernel_rfl
theorem k12 : (Rows.fnFirstPartsIsTheDeclaredPrefixRow.named == Try.pinned.checked.prog.varsNamed 3) = true := by kernel_rfl
theorem k13 : (Rows.fnFirstPartsIsTheDeclaredPrefixRow.maps == (Try.f3.params.toList ++ Rows.fnFirstPartsIsTheDeclaredPrefixSpec.plain.varTypes Try.pinned.checked.prog).any (Try.pinned.checked.prog.mapsRec ·)) = true := by kernel_rfl
theorem k14 : (Rows.fnFirstPartsIsTheDeclaredPrefixRow.ifaces == (Try.f3.params.toList ++ Rows.fnFirstPartsIsTheDeclaredPrefixSpec.plain.varTypes Try.pinned.checked.prog).any (Try.pinned.checked.prog.ifacesRec ·)) = true := by kernel_rfl
theorem k15 : (Rows.fnFirstPartsIsTheDeclaredPrefixRow.mapsOut == Try.pinned.checked.prog.mapsAmong Try.f3.resultTypes.toList) = true := by kernel_rfl
theorem k16 : (Rows.fnFirstPartsIsTheDeclaredPrefixRow.loops == (Try.f3.params.toList ++ Rows.fnFirstPartsIsTheDeclaredPrefixSpec.plain.varTypes Try.pinned.checked.prog).any (Try.pinned.checked.prog.loopsFrom ·)) = true := by kernel_rfl
theorem k17 : (Rows.fnFirstPartsIsTheDeclaredPrefixRow.wideKeys == (Try.f3.params.toList ++ Rows.fnFirstPartsIsTheDeclaredPrefixSpec.plain.varTypes Try.pinned.checked.prog ++ Try.f3.resultTypes.toList).any (Try.pinned.checked.prog.wideKeysFrom ·)) = true := by kernel_rfl
theorem k18 : Rows.fnFirstPartsIsTheDeclaredPrefixSpec.vars.all (Try.pinned.checked.prog.varReadable ·) = true := by kernel_rfl
theorem k19 : Try.f3.resultTypes.all (fun t => Try.pinned.checked.prog.readableRec t && decide (t < Try.pinned.checked.prog.types.size)) = true := by kernel_rfl
theorem k20 : (Rows.fnFirstPartsIsTheDeclaredPrefixRow.ifacesOut == Try.f3.resultTypes.toList.any (Try.pinned.checked.prog.ifacesRec ·)) = true := by kernel_rfl
theorem k21 : (Rows.fnFirstPartsIsTheDeclaredPrefixRow.loopsOut == Try.f3.resultTypes.toList.any (Try.pinned.checked.prog.loopsFrom ·)) = true := by kernel_rfl
theorem k22 : (Rows.fnFirstPartsIsTheDeclaredPrefixRow.plainKeys == Try.pinned.checked.prog.plainKeys) = true := by kernel_rfl
theorem k23 : Rows.fnFirstPartsIsTheDeclaredPrefixRow.shortTexts.isNone = true := by kernel_rfl
theorem k24 : Try.pinned.checked.prog.stopsHeard = true := by kernel_rfl
theorem k25 : Try.pinned.checked.prog.mayEnter = true := Order.may
theorem k26 : (Rows.fnFirstPartsIsTheDeclaredPrefixRow.lifted == Try.pinned.checked.prog.liftsFinal) = true := by rw [Order.lifts]; kernel_rfl
theorem k27 : (Try.pinned.checked.prog.make == some Rows.fnFirstPartsIsTheDeclaredPrefixRow.make) = true := by rw [Order.make]; kernel_rfl
theorem k28 : (Rows.fnFirstPartsIsTheDeclaredPrefixRow.kinds == (if Rows.fnFirstPartsIsTheDeclaredPrefixRow.domain.isEmpty then [] else Try.f3.params.toList.map fun t => match Try.pinned.checked.prog.underlying t with | some (.int k) => some k | _ => none)) = true := by kernel_rfl
theorem k29 : (Rows.fnFirstPartsIsTheDeclaredPrefixRow.pinned == Rows.fnFirstPartsIsTheDeclaredPrefixRow.pinnedBy) = true := by kernel_rfl
theorem k30 : (Rows.fnFirstPartsIsTheDeclaredPrefixRow.veiled == (Try.f3.params.toList ++ Rows.fnFirstPartsIsTheDeclaredPrefixSpec.plain.varTypes Try.pinned.checked.prog ++ Try.f3.resultTypes.toList).any (Try.pinned.checked.prog.veiledRec ·)) = true := by kernel_rfl
theorem k31 : Rows.fnFirstPartsIsTheDeclaredPrefixRow.veiledFits Try.pinned.checked.prog Try.f3.params.toList (Try.f3.params.toList ++ Rows.fnFirstPartsIsTheDeclaredPrefixSpec.plain.varTypes Try.pinned.checked.prog ++ Try.f3.resultTypes.toList) = true := by kernel_rfl
theorem joined : joinedFacts Try.pinned.checked.prog 3 Try.f3 Rows.fnFirstPartsIsTheDeclaredPrefixSpec Rows.fnFirstPartsIsTheDeclaredPrefixRow = true := by unfold joinedFacts; exact (Order.and2 (Order.and2 (Order.and2 (Order.and2 (Order.and2 (Order.and2 (Order.and2 (Order.and2 (Order.and2 (Order.and2 (Order.and2 (Order.and2 (Order.and2 (Order.and2 (Order.and2 (Order.and2 (Order.and2 (Order.and2 (Order.and2 (Order.and2 (Order.and2 (Order.and2 (Order.and2 (Order.and2 (Order.and2 (Order.and2 (Order.and2 (Order.and2 (Order.and2 (Order.and2 (Order.and2 k0 k1) k2) k3) k4) k5) k6) k7) k8) k9) k10) k11) k12) k13) k14) k15) k16) k17) k18) k19) k20) k21) k22) k23) k24) k25) k26) k27) k28) k29) k30) k31)
theorem named : Try.pinned.checked.prog.funcNamed Rows.fnFirstPartsIsTheDeclaredPrefixRow.func = some 3 := by kernel_rfl
theorem inst : Try.f3.isInstance Try.pinned.checked.prog Rows.fnFirstPartsIsTheDeclaredPrefixRow.origin Rows.fnFirstPartsIsTheDeclaredPrefixRow.targs := of_decide_eq_true (by kernel_rfl)
theorem wrap : Try.f3.isWrapper Try.pinned.checked.prog Rows.fnFirstPartsIsTheDeclaredPrefixRow.wrapper Rows.fnFirstPartsIsTheDeclaredPrefixRow.mainSum := by unfold Func.isWrapper; first | (rw [if_pos (by decide +kernel)]; kernel_rfl) | (rw [if_neg (by decide +kernel)]; exact ⟨rfl, rfl⟩)

theorem over : Rows.fnFirstPartsIsTheDeclaredPrefixRow.holds Try.pinned (OpenSpec.ofChange Rows.fnFirstPartsIsTheDeclaredPrefixSpec) :=
  OpenClaim.holds_of_wide 3 Try.f3 rfl rfl rfl rfl rfl rfl rfl ⟨rfl, rfl, rfl, rfl, rfl⟩ rfl rfl rfl rfl rfl named Try.func3 joined inst wrap
    (fun os started H enc _ => lifted os started H enc)

/-- ████ THE STATEMENT ████ -/
theorem proved : Rows.FnFirstPartsIsTheDeclaredPrefixSaid :=
  over
#print axioms proved
end Go.Proofs.Qxb6601209a.fnFirstPartsIsTheDeclaredPrefix
