/-
  The closed facts of the row of FnUnionIsTheMergeOfBoth, one theorem a fact.
-/
import Derived.Test.Qxb6600021aIo
namespace Go.Proofs.Qxb6600021a
theorem c3_1 : (Rows.fnUnionIsTheMergeOfBothRow.wf (OpenSpec.ofChange Rows.fnUnionIsTheMergeOfBothSpec)) = true := by kernel_rfl
theorem c3_4 : (Try.f3.params.all (Try.pinned.checked.prog.readableRec ·)) = true := by kernel_rfl
theorem c3_5 : (namedTie Try.pinned.checked.prog Rows.fnUnionIsTheMergeOfBothRow.named Rows.fnUnionIsTheMergeOfBothSpec.vars) = true := by kernel_rfl
theorem c3_6 : ((Rows.fnUnionIsTheMergeOfBothRow.stops == [])) = true := by kernel_rfl
theorem c3_8 : ((Rows.fnUnionIsTheMergeOfBothRow.knobs == [])) = true := by kernel_rfl
theorem c3_10 : ((Rows.fnUnionIsTheMergeOfBothRow.inPlace == Try.pinned.checked.prog.inPlace 3)) = true := by kernel_rfl
theorem c3_11 : ((Rows.fnUnionIsTheMergeOfBothRow.unfollowed == Try.pinned.checked.prog.unfollowed 3)) = true := by kernel_rfl
theorem c3_12 : ((Rows.fnUnionIsTheMergeOfBothRow.recurses == Try.pinned.checked.prog.recurses 3)) = true := by kernel_rfl
theorem c3_13 : ((Rows.fnUnionIsTheMergeOfBothRow.named == Try.pinned.checked.prog.varsNamed 3)) = true := by kernel_rfl
theorem c3_14 : ((Rows.fnUnionIsTheMergeOfBothRow.maps == (Try.f3.params.toList ++ Rows.fnUnionIsTheMergeOfBothSpec.plain.varTypes Try.pinned.checked.prog).any (Try.pinned.checked.prog.mapsRec ·))) = true := by kernel_rfl
theorem c3_15 : ((Rows.fnUnionIsTheMergeOfBothRow.ifaces == (Try.f3.params.toList ++ Rows.fnUnionIsTheMergeOfBothSpec.plain.varTypes Try.pinned.checked.prog).any (Try.pinned.checked.prog.ifacesRec ·))) = true := by kernel_rfl
theorem c3_16 : ((Rows.fnUnionIsTheMergeOfBothRow.mapsOut == Try.pinned.checked.prog.mapsAmong Try.f3.resultTypes.toList)) = true := by kernel_rfl
theorem c3_17 : ((Rows.fnUnionIsTheMergeOfBothRow.loops == (Try.f3.params.toList ++ Rows.fnUnionIsTheMergeOfBothSpec.plain.varTypes Try.pinned.checked.prog).any (Try.pinned.checked.prog.loopsFrom ·))) = true := by kernel_rfl
theorem c3_18 : ((Rows.fnUnionIsTheMergeOfBothRow.wideKeys == (Try.f3.params.toList ++ Rows.fnUnionIsTheMergeOfBothSpec.plain.varTypes Try.pinned.checked.prog ++ Try.f3.resultTypes.toList).any (Try.pinned.checked.prog.wideKeysFrom ·))) = true := by kernel_rfl
theorem c3_19 : (Rows.fnUnionIsTheMergeOfBothSpec.vars.all (Try.pinned.checked.prog.varReadable ·)) = true := by kernel_rfl
theorem c3_20 : (Try.f3.resultTypes.all (fun t => Try.pinned.checked.prog.readableRec t && decide (t < Try.pinned.checked.prog.types.size))) = true := by kernel_rfl
theorem c3_21 : ((Rows.fnUnionIsTheMergeOfBothRow.ifacesOut == Try.f3.resultTypes.toList.any (Try.pinned.checked.prog.ifacesRec ·))) = true := by kernel_rfl
theorem c3_22 : ((Rows.fnUnionIsTheMergeOfBothRow.loopsOut == Try.f3.resultTypes.toList.any (Try.pinned.checked.prog.loopsFrom ·))) = true := by kernel_rfl
theorem c3_23 : ((Rows.fnUnionIsTheMergeOfBothRow.plainKeys == Try.pinned.checked.prog.plainKeys)) = true := by kernel_rfl
theorem c3_24 : (Rows.fnUnionIsTheMergeOfBothRow.shortTexts.isNone) = true := by kernel_rfl
theorem c3_27 : ((Rows.fnUnionIsTheMergeOfBothRow.lifted == Try.pinned.checked.prog.liftsFinal)) = true := by rw [liftsNo]; rfl
theorem c3_28 : ((Try.pinned.checked.prog.make == some Rows.fnUnionIsTheMergeOfBothRow.make)) = true := by rw [makeIs]; rfl
theorem d3_29 : Rows.fnUnionIsTheMergeOfBothRow.domain.isEmpty = true := by kernel_rfl
theorem e3_29 : Rows.fnUnionIsTheMergeOfBothRow.kinds = [] := by kernel_rfl
theorem c3_30 : ((Rows.fnUnionIsTheMergeOfBothRow.pinned == Rows.fnUnionIsTheMergeOfBothRow.pinnedBy)) = true := by kernel_rfl
theorem c3_31 : ((Rows.fnUnionIsTheMergeOfBothRow.veiled == (Try.f3.params.toList ++ Rows.fnUnionIsTheMergeOfBothSpec.plain.varTypes Try.pinned.checked.prog ++ Try.f3.resultTypes.toList).any (Try.pinned.checked.prog.veiledRec ·))) = true := by kernel_rfl
theorem c3_32 : (Rows.fnUnionIsTheMergeOfBothRow.veiledFits Try.pinned.checked.prog Try.f3.params.toList (Try.f3.params.toList ++ Rows.fnUnionIsTheMergeOfBothSpec.plain.varTypes Try.pinned.checked.prog ++ Try.f3.resultTypes.toList)) = true := by kernel_rfl
theorem closed3 : joinedFacts Try.pinned.checked.prog 3 Try.f3 Rows.fnUnionIsTheMergeOfBothSpec Rows.fnUnionIsTheMergeOfBothRow = true :=
  joined_of Try.pinned.checked.prog 3 Try.f3 Rows.fnUnionIsTheMergeOfBothSpec Rows.fnUnionIsTheMergeOfBothRow c3_1 cc_2 cc_3 c3_4 c3_5 c3_6 cc_7 c3_8 cc_9 c3_10 c3_11 c3_12 c3_13 c3_14 c3_15 c3_16 c3_17 c3_18 c3_19 c3_20 c3_21 c3_22 c3_23 c3_24 cc_25 cc_26 c3_27 c3_28 d3_29 e3_29 c3_30 c3_31 c3_32
theorem named3 : Try.pinned.checked.prog.funcNamed Rows.fnUnionIsTheMergeOfBothRow.func = some 3 := by kernel_rfl
theorem inst3 : Try.f3.isInstance Try.pinned.checked.prog Rows.fnUnionIsTheMergeOfBothRow.origin Rows.fnUnionIsTheMergeOfBothRow.targs := of_decide_eq_true (by kernel_rfl)
theorem wrap3 : Try.f3.isWrapper Try.pinned.checked.prog Rows.fnUnionIsTheMergeOfBothRow.wrapper Rows.fnUnionIsTheMergeOfBothRow.mainSum := by
  unfold Func.isWrapper; first | (rw [if_pos (by decide +kernel)]; kernel_rfl) | (rw [if_neg (by decide +kernel)]; exact ⟨rfl, rfl⟩)

end Go.Proofs.Qxb6600021a
