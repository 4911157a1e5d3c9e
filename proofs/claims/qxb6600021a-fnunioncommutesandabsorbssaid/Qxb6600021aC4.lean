/-
  The closed facts of the row of FnUnionCommutesAndAbsorbs, one theorem a fact.
-/
import Derived.Test.Qxb6600021aIo
namespace Go.Proofs.Qxb6600021a
theorem c4_1 : (Rows.fnUnionCommutesAndAbsorbsRow.wf (OpenSpec.ofChange Rows.fnUnionCommutesAndAbsorbsSpec)) = true := by kernel_rfl
theorem c4_4 : (Try.f4.params.all (Try.pinned.checked.prog.readableRec ·)) = true := by kernel_rfl
theorem c4_5 : (namedTie Try.pinned.checked.prog Rows.fnUnionCommutesAndAbsorbsRow.named Rows.fnUnionCommutesAndAbsorbsSpec.vars) = true := by kernel_rfl
theorem c4_6 : ((Rows.fnUnionCommutesAndAbsorbsRow.stops == [])) = true := by kernel_rfl
theorem c4_8 : ((Rows.fnUnionCommutesAndAbsorbsRow.knobs == [])) = true := by kernel_rfl
theorem c4_10 : ((Rows.fnUnionCommutesAndAbsorbsRow.inPlace == Try.pinned.checked.prog.inPlace 4)) = true := by kernel_rfl
theorem c4_11 : ((Rows.fnUnionCommutesAndAbsorbsRow.unfollowed == Try.pinned.checked.prog.unfollowed 4)) = true := by kernel_rfl
theorem c4_12 : ((Rows.fnUnionCommutesAndAbsorbsRow.recurses == Try.pinned.checked.prog.recurses 4)) = true := by kernel_rfl
theorem c4_13 : ((Rows.fnUnionCommutesAndAbsorbsRow.named == Try.pinned.checked.prog.varsNamed 4)) = true := by kernel_rfl
theorem c4_14 : ((Rows.fnUnionCommutesAndAbsorbsRow.maps == (Try.f4.params.toList ++ Rows.fnUnionCommutesAndAbsorbsSpec.plain.varTypes Try.pinned.checked.prog).any (Try.pinned.checked.prog.mapsRec ·))) = true := by kernel_rfl
theorem c4_15 : ((Rows.fnUnionCommutesAndAbsorbsRow.ifaces == (Try.f4.params.toList ++ Rows.fnUnionCommutesAndAbsorbsSpec.plain.varTypes Try.pinned.checked.prog).any (Try.pinned.checked.prog.ifacesRec ·))) = true := by kernel_rfl
theorem c4_16 : ((Rows.fnUnionCommutesAndAbsorbsRow.mapsOut == Try.pinned.checked.prog.mapsAmong Try.f4.resultTypes.toList)) = true := by kernel_rfl
theorem c4_17 : ((Rows.fnUnionCommutesAndAbsorbsRow.loops == (Try.f4.params.toList ++ Rows.fnUnionCommutesAndAbsorbsSpec.plain.varTypes Try.pinned.checked.prog).any (Try.pinned.checked.prog.loopsFrom ·))) = true := by kernel_rfl
theorem c4_18 : ((Rows.fnUnionCommutesAndAbsorbsRow.wideKeys == (Try.f4.params.toList ++ Rows.fnUnionCommutesAndAbsorbsSpec.plain.varTypes Try.pinned.checked.prog ++ Try.f4.resultTypes.toList).any (Try.pinned.checked.prog.wideKeysFrom ·))) = true := by kernel_rfl
theorem c4_19 : (Rows.fnUnionCommutesAndAbsorbsSpec.vars.all (Try.pinned.checked.prog.varReadable ·)) = true := by kernel_rfl
theorem c4_20 : (Try.f4.resultTypes.all (fun t => Try.pinned.checked.prog.readableRec t && decide (t < Try.pinned.checked.prog.types.size))) = true := by kernel_rfl
theorem c4_21 : ((Rows.fnUnionCommutesAndAbsorbsRow.ifacesOut == Try.f4.resultTypes.toList.any (Try.pinned.checked.prog.ifacesRec ·))) = true := by kernel_rfl
theorem c4_22 : ((Rows.fnUnionCommutesAndAbsorbsRow.loopsOut == Try.f4.resultTypes.toList.any (Try.pinned.checked.prog.loopsFrom ·))) = true := by kernel_rfl
theorem c4_23 : ((Rows.fnUnionCommutesAndAbsorbsRow.plainKeys == Try.pinned.checked.prog.plainKeys)) = true := by kernel_rfl
theorem c4_24 : (Rows.fnUnionCommutesAndAbsorbsRow.shortTexts.isNone) = true := by kernel_rfl
theorem c4_27 : ((Rows.fnUnionCommutesAndAbsorbsRow.lifted == Try.pinned.checked.prog.liftsFinal)) = true := by rw [liftsNo]; rfl
theorem c4_28 : ((Try.pinned.checked.prog.make == some Rows.fnUnionCommutesAndAbsorbsRow.make)) = true := by rw [makeIs]; rfl
theorem d4_29 : Rows.fnUnionCommutesAndAbsorbsRow.domain.isEmpty = true := by kernel_rfl
theorem e4_29 : Rows.fnUnionCommutesAndAbsorbsRow.kinds = [] := by kernel_rfl
theorem c4_30 : ((Rows.fnUnionCommutesAndAbsorbsRow.pinned == Rows.fnUnionCommutesAndAbsorbsRow.pinnedBy)) = true := by kernel_rfl
theorem c4_31 : ((Rows.fnUnionCommutesAndAbsorbsRow.veiled == (Try.f4.params.toList ++ Rows.fnUnionCommutesAndAbsorbsSpec.plain.varTypes Try.pinned.checked.prog ++ Try.f4.resultTypes.toList).any (Try.pinned.checked.prog.veiledRec ·))) = true := by kernel_rfl
theorem c4_32 : (Rows.fnUnionCommutesAndAbsorbsRow.veiledFits Try.pinned.checked.prog Try.f4.params.toList (Try.f4.params.toList ++ Rows.fnUnionCommutesAndAbsorbsSpec.plain.varTypes Try.pinned.checked.prog ++ Try.f4.resultTypes.toList)) = true := by kernel_rfl
theorem closed4 : joinedFacts Try.pinned.checked.prog 4 Try.f4 Rows.fnUnionCommutesAndAbsorbsSpec Rows.fnUnionCommutesAndAbsorbsRow = true :=
  joined_of Try.pinned.checked.prog 4 Try.f4 Rows.fnUnionCommutesAndAbsorbsSpec Rows.fnUnionCommutesAndAbsorbsRow c4_1 cc_2 cc_3 c4_4 c4_5 c4_6 cc_7 c4_8 cc_9 c4_10 c4_11 c4_12 c4_13 c4_14 c4_15 c4_16 c4_17 c4_18 c4_19 c4_20 c4_21 c4_22 c4_23 c4_24 cc_25 cc_26 c4_27 c4_28 d4_29 e4_29 c4_30 c4_31 c4_32
theorem named4 : Try.pinned.checked.prog.funcNamed Rows.fnUnionCommutesAndAbsorbsRow.func = some 4 := by kernel_rfl
theorem inst4 : Try.f4.isInstance Try.pinned.checked.prog Rows.fnUnionCommutesAndAbsorbsRow.origin Rows.fnUnionCommutesAndAbsorbsRow.targs := of_decide_eq_true (by kernel_rfl)
theorem wrap4 : Try.f4.isWrapper Try.pinned.checked.prog Rows.fnUnionCommutesAndAbsorbsRow.wrapper Rows.fnUnionCommutesAndAbsorbsRow.mainSum := by
  unfold Func.isWrapper; first | (rw [if_pos (by decide +kernel)]; kernel_rfl) | (rw [if_neg (by decide +kernel)]; exact ⟨rfl, rfl⟩)

end Go.Proofs.Qxb6600021a
