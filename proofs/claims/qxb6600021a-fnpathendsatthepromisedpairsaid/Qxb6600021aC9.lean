/-
  The closed facts of the row of FnPathEndsAtThePromisedPair, one theorem a fact.
-/
import Derived.Test.Qxb6600021aIo
namespace Go.Proofs.Qxb6600021a
theorem c9_1 : (Rows.fnPathEndsAtThePromisedPairRow.wf (OpenSpec.ofChange Rows.fnPathEndsAtThePromisedPairSpec)) = true := by kernel_rfl
theorem c9_4 : (Try.f9.params.all (Try.pinned.checked.prog.readableRec ·)) = true := by kernel_rfl
theorem c9_5 : (namedTie Try.pinned.checked.prog Rows.fnPathEndsAtThePromisedPairRow.named Rows.fnPathEndsAtThePromisedPairSpec.vars) = true := by kernel_rfl
theorem c9_6 : ((Rows.fnPathEndsAtThePromisedPairRow.stops == [])) = true := by kernel_rfl
theorem c9_8 : ((Rows.fnPathEndsAtThePromisedPairRow.knobs == [])) = true := by kernel_rfl
theorem c9_10 : ((Rows.fnPathEndsAtThePromisedPairRow.inPlace == Try.pinned.checked.prog.inPlace 9)) = true := by kernel_rfl
theorem c9_11 : ((Rows.fnPathEndsAtThePromisedPairRow.unfollowed == Try.pinned.checked.prog.unfollowed 9)) = true := by kernel_rfl
theorem c9_12 : ((Rows.fnPathEndsAtThePromisedPairRow.recurses == Try.pinned.checked.prog.recurses 9)) = true := by kernel_rfl
theorem c9_13 : ((Rows.fnPathEndsAtThePromisedPairRow.named == Try.pinned.checked.prog.varsNamed 9)) = true := by kernel_rfl
theorem c9_14 : ((Rows.fnPathEndsAtThePromisedPairRow.maps == (Try.f9.params.toList ++ Rows.fnPathEndsAtThePromisedPairSpec.plain.varTypes Try.pinned.checked.prog).any (Try.pinned.checked.prog.mapsRec ·))) = true := by kernel_rfl
theorem c9_15 : ((Rows.fnPathEndsAtThePromisedPairRow.ifaces == (Try.f9.params.toList ++ Rows.fnPathEndsAtThePromisedPairSpec.plain.varTypes Try.pinned.checked.prog).any (Try.pinned.checked.prog.ifacesRec ·))) = true := by kernel_rfl
theorem c9_16 : ((Rows.fnPathEndsAtThePromisedPairRow.mapsOut == Try.pinned.checked.prog.mapsAmong Try.f9.resultTypes.toList)) = true := by kernel_rfl
theorem c9_17 : ((Rows.fnPathEndsAtThePromisedPairRow.loops == (Try.f9.params.toList ++ Rows.fnPathEndsAtThePromisedPairSpec.plain.varTypes Try.pinned.checked.prog).any (Try.pinned.checked.prog.loopsFrom ·))) = true := by kernel_rfl
theorem c9_18 : ((Rows.fnPathEndsAtThePromisedPairRow.wideKeys == (Try.f9.params.toList ++ Rows.fnPathEndsAtThePromisedPairSpec.plain.varTypes Try.pinned.checked.prog ++ Try.f9.resultTypes.toList).any (Try.pinned.checked.prog.wideKeysFrom ·))) = true := by kernel_rfl
theorem c9_19 : (Rows.fnPathEndsAtThePromisedPairSpec.vars.all (Try.pinned.checked.prog.varReadable ·)) = true := by kernel_rfl
theorem c9_20 : (Try.f9.resultTypes.all (fun t => Try.pinned.checked.prog.readableRec t && decide (t < Try.pinned.checked.prog.types.size))) = true := by kernel_rfl
theorem c9_21 : ((Rows.fnPathEndsAtThePromisedPairRow.ifacesOut == Try.f9.resultTypes.toList.any (Try.pinned.checked.prog.ifacesRec ·))) = true := by kernel_rfl
theorem c9_22 : ((Rows.fnPathEndsAtThePromisedPairRow.loopsOut == Try.f9.resultTypes.toList.any (Try.pinned.checked.prog.loopsFrom ·))) = true := by kernel_rfl
theorem c9_23 : ((Rows.fnPathEndsAtThePromisedPairRow.plainKeys == Try.pinned.checked.prog.plainKeys)) = true := by kernel_rfl
theorem c9_24 : (Rows.fnPathEndsAtThePromisedPairRow.shortTexts.isNone) = true := by kernel_rfl
theorem c9_27 : ((Rows.fnPathEndsAtThePromisedPairRow.lifted == Try.pinned.checked.prog.liftsFinal)) = true := by rw [liftsNo]; rfl
theorem c9_28 : ((Try.pinned.checked.prog.make == some Rows.fnPathEndsAtThePromisedPairRow.make)) = true := by rw [makeIs]; rfl
theorem d9_29 : Rows.fnPathEndsAtThePromisedPairRow.domain.isEmpty = true := by kernel_rfl
theorem e9_29 : Rows.fnPathEndsAtThePromisedPairRow.kinds = [] := by kernel_rfl
theorem c9_30 : ((Rows.fnPathEndsAtThePromisedPairRow.pinned == Rows.fnPathEndsAtThePromisedPairRow.pinnedBy)) = true := by kernel_rfl
theorem c9_31 : ((Rows.fnPathEndsAtThePromisedPairRow.veiled == (Try.f9.params.toList ++ Rows.fnPathEndsAtThePromisedPairSpec.plain.varTypes Try.pinned.checked.prog ++ Try.f9.resultTypes.toList).any (Try.pinned.checked.prog.veiledRec ·))) = true := by kernel_rfl
theorem c9_32 : (Rows.fnPathEndsAtThePromisedPairRow.veiledFits Try.pinned.checked.prog Try.f9.params.toList (Try.f9.params.toList ++ Rows.fnPathEndsAtThePromisedPairSpec.plain.varTypes Try.pinned.checked.prog ++ Try.f9.resultTypes.toList)) = true := by kernel_rfl
theorem closed9 : joinedFacts Try.pinned.checked.prog 9 Try.f9 Rows.fnPathEndsAtThePromisedPairSpec Rows.fnPathEndsAtThePromisedPairRow = true :=
  joined_of Try.pinned.checked.prog 9 Try.f9 Rows.fnPathEndsAtThePromisedPairSpec Rows.fnPathEndsAtThePromisedPairRow c9_1 cc_2 cc_3 c9_4 c9_5 c9_6 cc_7 c9_8 cc_9 c9_10 c9_11 c9_12 c9_13 c9_14 c9_15 c9_16 c9_17 c9_18 c9_19 c9_20 c9_21 c9_22 c9_23 c9_24 cc_25 cc_26 c9_27 c9_28 d9_29 e9_29 c9_30 c9_31 c9_32
theorem named9 : Try.pinned.checked.prog.funcNamed Rows.fnPathEndsAtThePromisedPairRow.func = some 9 := by kernel_rfl
theorem inst9 : Try.f9.isInstance Try.pinned.checked.prog Rows.fnPathEndsAtThePromisedPairRow.origin Rows.fnPathEndsAtThePromisedPairRow.targs := of_decide_eq_true (by kernel_rfl)
theorem wrap9 : Try.f9.isWrapper Try.pinned.checked.prog Rows.fnPathEndsAtThePromisedPairRow.wrapper Rows.fnPathEndsAtThePromisedPairRow.mainSum := by
  unfold Func.isWrapper; first | (rw [if_pos (by decide +kernel)]; kernel_rfl) | (rw [if_neg (by decide +kernel)]; exact ⟨rfl, rfl⟩)

end Go.Proofs.Qxb6600021a
