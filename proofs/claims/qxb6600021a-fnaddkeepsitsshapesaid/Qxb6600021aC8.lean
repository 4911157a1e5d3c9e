/-
  The closed facts of the row of FnAddKeepsItsShape, one theorem a fact.
-/
import Derived.Test.Qxb6600021aIo
namespace Go.Proofs.Qxb6600021a
theorem c8_1 : (Rows.fnAddKeepsItsShapeRow.wf (OpenSpec.ofChange Rows.fnAddKeepsItsShapeSpec)) = true := by kernel_rfl
theorem c8_4 : (Try.f8.params.all (Try.pinned.checked.prog.readableRec ·)) = true := by kernel_rfl
theorem c8_5 : (namedTie Try.pinned.checked.prog Rows.fnAddKeepsItsShapeRow.named Rows.fnAddKeepsItsShapeSpec.vars) = true := by kernel_rfl
theorem c8_6 : ((Rows.fnAddKeepsItsShapeRow.stops == [])) = true := by kernel_rfl
theorem c8_8 : ((Rows.fnAddKeepsItsShapeRow.knobs == [])) = true := by kernel_rfl
theorem c8_10 : ((Rows.fnAddKeepsItsShapeRow.inPlace == Try.pinned.checked.prog.inPlace 8)) = true := by kernel_rfl
theorem c8_11 : ((Rows.fnAddKeepsItsShapeRow.unfollowed == Try.pinned.checked.prog.unfollowed 8)) = true := by kernel_rfl
theorem c8_12 : ((Rows.fnAddKeepsItsShapeRow.recurses == Try.pinned.checked.prog.recurses 8)) = true := by kernel_rfl
theorem c8_13 : ((Rows.fnAddKeepsItsShapeRow.named == Try.pinned.checked.prog.varsNamed 8)) = true := by kernel_rfl
theorem c8_14 : ((Rows.fnAddKeepsItsShapeRow.maps == (Try.f8.params.toList ++ Rows.fnAddKeepsItsShapeSpec.plain.varTypes Try.pinned.checked.prog).any (Try.pinned.checked.prog.mapsRec ·))) = true := by kernel_rfl
theorem c8_15 : ((Rows.fnAddKeepsItsShapeRow.ifaces == (Try.f8.params.toList ++ Rows.fnAddKeepsItsShapeSpec.plain.varTypes Try.pinned.checked.prog).any (Try.pinned.checked.prog.ifacesRec ·))) = true := by kernel_rfl
theorem c8_16 : ((Rows.fnAddKeepsItsShapeRow.mapsOut == Try.pinned.checked.prog.mapsAmong Try.f8.resultTypes.toList)) = true := by kernel_rfl
theorem c8_17 : ((Rows.fnAddKeepsItsShapeRow.loops == (Try.f8.params.toList ++ Rows.fnAddKeepsItsShapeSpec.plain.varTypes Try.pinned.checked.prog).any (Try.pinned.checked.prog.loopsFrom ·))) = true := by kernel_rfl
theorem c8_18 : ((Rows.fnAddKeepsItsShapeRow.wideKeys == (Try.f8.params.toList ++ Rows.fnAddKeepsItsShapeSpec.plain.varTypes Try.pinned.checked.prog ++ Try.f8.resultTypes.toList).any (Try.pinned.checked.prog.wideKeysFrom ·))) = true := by kernel_rfl
theorem c8_19 : (Rows.fnAddKeepsItsShapeSpec.vars.all (Try.pinned.checked.prog.varReadable ·)) = true := by kernel_rfl
theorem c8_20 : (Try.f8.resultTypes.all (fun t => Try.pinned.checked.prog.readableRec t && decide (t < Try.pinned.checked.prog.types.size))) = true := by kernel_rfl
theorem c8_21 : ((Rows.fnAddKeepsItsShapeRow.ifacesOut == Try.f8.resultTypes.toList.any (Try.pinned.checked.prog.ifacesRec ·))) = true := by kernel_rfl
theorem c8_22 : ((Rows.fnAddKeepsItsShapeRow.loopsOut == Try.f8.resultTypes.toList.any (Try.pinned.checked.prog.loopsFrom ·))) = true := by kernel_rfl
theorem c8_23 : ((Rows.fnAddKeepsItsShapeRow.plainKeys == Try.pinned.checked.prog.plainKeys)) = true := by kernel_rfl
theorem c8_24 : (Rows.fnAddKeepsItsShapeRow.shortTexts.isNone) = true := by kernel_rfl
theorem c8_27 : ((Rows.fnAddKeepsItsShapeRow.lifted == Try.pinned.checked.prog.liftsFinal)) = true := by rw [liftsNo]; rfl
theorem c8_28 : ((Try.pinned.checked.prog.make == some Rows.fnAddKeepsItsShapeRow.make)) = true := by rw [makeIs]; rfl
theorem d8_29 : Rows.fnAddKeepsItsShapeRow.domain.isEmpty = true := by kernel_rfl
theorem e8_29 : Rows.fnAddKeepsItsShapeRow.kinds = [] := by kernel_rfl
theorem c8_30 : ((Rows.fnAddKeepsItsShapeRow.pinned == Rows.fnAddKeepsItsShapeRow.pinnedBy)) = true := by kernel_rfl
theorem c8_31 : ((Rows.fnAddKeepsItsShapeRow.veiled == (Try.f8.params.toList ++ Rows.fnAddKeepsItsShapeSpec.plain.varTypes Try.pinned.checked.prog ++ Try.f8.resultTypes.toList).any (Try.pinned.checked.prog.veiledRec ·))) = true := by kernel_rfl
theorem c8_32 : (Rows.fnAddKeepsItsShapeRow.veiledFits Try.pinned.checked.prog Try.f8.params.toList (Try.f8.params.toList ++ Rows.fnAddKeepsItsShapeSpec.plain.varTypes Try.pinned.checked.prog ++ Try.f8.resultTypes.toList)) = true := by kernel_rfl
theorem closed8 : joinedFacts Try.pinned.checked.prog 8 Try.f8 Rows.fnAddKeepsItsShapeSpec Rows.fnAddKeepsItsShapeRow = true :=
  joined_of Try.pinned.checked.prog 8 Try.f8 Rows.fnAddKeepsItsShapeSpec Rows.fnAddKeepsItsShapeRow c8_1 cc_2 cc_3 c8_4 c8_5 c8_6 cc_7 c8_8 cc_9 c8_10 c8_11 c8_12 c8_13 c8_14 c8_15 c8_16 c8_17 c8_18 c8_19 c8_20 c8_21 c8_22 c8_23 c8_24 cc_25 cc_26 c8_27 c8_28 d8_29 e8_29 c8_30 c8_31 c8_32
theorem named8 : Try.pinned.checked.prog.funcNamed Rows.fnAddKeepsItsShapeRow.func = some 8 := by kernel_rfl
theorem inst8 : Try.f8.isInstance Try.pinned.checked.prog Rows.fnAddKeepsItsShapeRow.origin Rows.fnAddKeepsItsShapeRow.targs := of_decide_eq_true (by kernel_rfl)
theorem wrap8 : Try.f8.isWrapper Try.pinned.checked.prog Rows.fnAddKeepsItsShapeRow.wrapper Rows.fnAddKeepsItsShapeRow.mainSum := by
  unfold Func.isWrapper; first | (rw [if_pos (by decide +kernel)]; kernel_rfl) | (rw [if_neg (by decide +kernel)]; exact ⟨rfl, rfl⟩)

end Go.Proofs.Qxb6600021a
