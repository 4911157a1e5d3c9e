/-
  The closed facts of the row of FnAddAgreesWithOrModel, one theorem a fact.
-/
import Derived.Test.Qxb6600021aIo
namespace Go.Proofs.Qxb6600021a
theorem c6_1 : (Rows.fnAddAgreesWithOrModelRow.wf (OpenSpec.ofChange Rows.fnAddAgreesWithOrModelSpec)) = true := by kernel_rfl
theorem c6_4 : (Try.f6.params.all (Try.pinned.checked.prog.readableRec ·)) = true := by kernel_rfl
theorem c6_5 : (namedTie Try.pinned.checked.prog Rows.fnAddAgreesWithOrModelRow.named Rows.fnAddAgreesWithOrModelSpec.vars) = true := by kernel_rfl
theorem c6_6 : ((Rows.fnAddAgreesWithOrModelRow.stops == [])) = true := by kernel_rfl
theorem c6_8 : ((Rows.fnAddAgreesWithOrModelRow.knobs == [])) = true := by kernel_rfl
theorem c6_10 : ((Rows.fnAddAgreesWithOrModelRow.inPlace == Try.pinned.checked.prog.inPlace 6)) = true := by kernel_rfl
theorem c6_11 : ((Rows.fnAddAgreesWithOrModelRow.unfollowed == Try.pinned.checked.prog.unfollowed 6)) = true := by kernel_rfl
theorem c6_12 : ((Rows.fnAddAgreesWithOrModelRow.recurses == Try.pinned.checked.prog.recurses 6)) = true := by kernel_rfl
theorem c6_13 : ((Rows.fnAddAgreesWithOrModelRow.named == Try.pinned.checked.prog.varsNamed 6)) = true := by kernel_rfl
theorem c6_14 : ((Rows.fnAddAgreesWithOrModelRow.maps == (Try.f6.params.toList ++ Rows.fnAddAgreesWithOrModelSpec.plain.varTypes Try.pinned.checked.prog).any (Try.pinned.checked.prog.mapsRec ·))) = true := by kernel_rfl
theorem c6_15 : ((Rows.fnAddAgreesWithOrModelRow.ifaces == (Try.f6.params.toList ++ Rows.fnAddAgreesWithOrModelSpec.plain.varTypes Try.pinned.checked.prog).any (Try.pinned.checked.prog.ifacesRec ·))) = true := by kernel_rfl
theorem c6_16 : ((Rows.fnAddAgreesWithOrModelRow.mapsOut == Try.pinned.checked.prog.mapsAmong Try.f6.resultTypes.toList)) = true := by kernel_rfl
theorem c6_17 : ((Rows.fnAddAgreesWithOrModelRow.loops == (Try.f6.params.toList ++ Rows.fnAddAgreesWithOrModelSpec.plain.varTypes Try.pinned.checked.prog).any (Try.pinned.checked.prog.loopsFrom ·))) = true := by kernel_rfl
theorem c6_18 : ((Rows.fnAddAgreesWithOrModelRow.wideKeys == (Try.f6.params.toList ++ Rows.fnAddAgreesWithOrModelSpec.plain.varTypes Try.pinned.checked.prog ++ Try.f6.resultTypes.toList).any (Try.pinned.checked.prog.wideKeysFrom ·))) = true := by kernel_rfl
theorem c6_19 : (Rows.fnAddAgreesWithOrModelSpec.vars.all (Try.pinned.checked.prog.varReadable ·)) = true := by kernel_rfl
theorem c6_20 : (Try.f6.resultTypes.all (fun t => Try.pinned.checked.prog.readableRec t && decide (t < Try.pinned.checked.prog.types.size))) = true := by kernel_rfl
theorem c6_21 : ((Rows.fnAddAgreesWithOrModelRow.ifacesOut == Try.f6.resultTypes.toList.any (Try.pinned.checked.prog.ifacesRec ·))) = true := by kernel_rfl
theorem c6_22 : ((Rows.fnAddAgreesWithOrModelRow.loopsOut == Try.f6.resultTypes.toList.any (Try.pinned.checked.prog.loopsFrom ·))) = true := by kernel_rfl
theorem c6_23 : ((Rows.fnAddAgreesWithOrModelRow.plainKeys == Try.pinned.checked.prog.plainKeys)) = true := by kernel_rfl
theorem c6_24 : (Rows.fnAddAgreesWithOrModelRow.shortTexts.isNone) = true := by kernel_rfl
theorem c6_27 : ((Rows.fnAddAgreesWithOrModelRow.lifted == Try.pinned.checked.prog.liftsFinal)) = true := by rw [liftsNo]; rfl
theorem c6_28 : ((Try.pinned.checked.prog.make == some Rows.fnAddAgreesWithOrModelRow.make)) = true := by rw [makeIs]; rfl
theorem d6_29 : Rows.fnAddAgreesWithOrModelRow.domain.isEmpty = true := by kernel_rfl
theorem e6_29 : Rows.fnAddAgreesWithOrModelRow.kinds = [] := by kernel_rfl
theorem c6_30 : ((Rows.fnAddAgreesWithOrModelRow.pinned == Rows.fnAddAgreesWithOrModelRow.pinnedBy)) = true := by kernel_rfl
theorem c6_31 : ((Rows.fnAddAgreesWithOrModelRow.veiled == (Try.f6.params.toList ++ Rows.fnAddAgreesWithOrModelSpec.plain.varTypes Try.pinned.checked.prog ++ Try.f6.resultTypes.toList).any (Try.pinned.checked.prog.veiledRec ·))) = true := by kernel_rfl
theorem c6_32 : (Rows.fnAddAgreesWithOrModelRow.veiledFits Try.pinned.checked.prog Try.f6.params.toList (Try.f6.params.toList ++ Rows.fnAddAgreesWithOrModelSpec.plain.varTypes Try.pinned.checked.prog ++ Try.f6.resultTypes.toList)) = true := by kernel_rfl
theorem closed6 : joinedFacts Try.pinned.checked.prog 6 Try.f6 Rows.fnAddAgreesWithOrModelSpec Rows.fnAddAgreesWithOrModelRow = true :=
  joined_of Try.pinned.checked.prog 6 Try.f6 Rows.fnAddAgreesWithOrModelSpec Rows.fnAddAgreesWithOrModelRow c6_1 cc_2 cc_3 c6_4 c6_5 c6_6 cc_7 c6_8 cc_9 c6_10 c6_11 c6_12 c6_13 c6_14 c6_15 c6_16 c6_17 c6_18 c6_19 c6_20 c6_21 c6_22 c6_23 c6_24 cc_25 cc_26 c6_27 c6_28 d6_29 e6_29 c6_30 c6_31 c6_32
theorem named6 : Try.pinned.checked.prog.funcNamed Rows.fnAddAgreesWithOrModelRow.func = some 6 := by kernel_rfl
theorem inst6 : Try.f6.isInstance Try.pinned.checked.prog Rows.fnAddAgreesWithOrModelRow.origin Rows.fnAddAgreesWithOrModelRow.targs := of_decide_eq_true (by kernel_rfl)
theorem wrap6 : Try.f6.isWrapper Try.pinned.checked.prog Rows.fnAddAgreesWithOrModelRow.wrapper Rows.fnAddAgreesWithOrModelRow.mainSum := by
  unfold Func.isWrapper; first | (rw [if_pos (by decide +kernel)]; kernel_rfl) | (rw [if_neg (by decide +kernel)]; exact ⟨rfl, rfl⟩)

end Go.Proofs.Qxb6600021a
