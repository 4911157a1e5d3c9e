/-
  The dump's head word by word: its text as lists of signs, so that the kernel need not read a long string again and again.
-/
import Derived.Test.Qxb6600021aRows
import Derived.JoinedOf
namespace Go.Proofs.Qxb6600021a
def ioW0 : List Char := [104, 97, 114, 110, 101, 115, 115].map Char.ofNat
def ioW1 : List Char := [49, 97, 50, 57, 101, 48, 55, 50, 51, 99, 53, 101, 52, 56, 56, 52, 49, 56, 100, 54, 50, 48, 99, 48, 50, 100, 102, 49, 49, 52, 49, 53, 99, 53, 50, 98, 54, 49, 50, 57,
  53, 97, 49, 53, 56, 50, 98, 57, 100, 98, 49, 100, 57, 49, 99, 100, 53, 55, 102, 57, 100, 48, 54, 102].map Char.ofNat
def ioW2 : List Char := [99, 117, 116].map Char.ofNat
def ioRest : List Char := [
  97, 116, 32, 101, 120, 97, 109, 112, 108, 101, 46, 99, 111, 109, 47, 112, 111, 108, 105, 99, 121, 45, 112, 114, 111, 118, 101, 114, 47, 112, 111, 108, 105, 99, 121, 45, 112, 114, 111, 118,
  101, 114, 47, 122, 122, 108, 97, 119, 115, 95, 105, 110, 116, 101, 114, 110, 97, 108, 95, 115, 101, 97, 114, 99, 104, 95, 98, 49, 46, 70, 110, 85, 110, 105, 111, 110, 73, 115, 84, 104,
  101, 77, 101, 114, 103, 101, 79, 102, 66, 111, 116, 104, 32, 101, 120, 97, 109, 112, 108, 101, 46, 99, 111, 109, 47, 112, 111, 108, 105, 99, 121, 45, 112, 114, 111, 118, 101, 114, 47, 112,
  111, 108, 105, 99, 121, 45, 112, 114, 111, 118, 101, 114, 47, 122, 122, 108, 97, 119, 115, 95, 105, 110, 116, 101, 114, 110, 97, 108, 95, 115, 101, 97, 114, 99, 104, 95, 98, 49, 46, 70,
  110, 85, 110, 105, 111, 110, 67, 111, 109, 109, 117, 116, 101, 115, 65, 110, 100, 65, 98, 115, 111, 114, 98, 115, 32, 101, 120, 97, 109, 112, 108, 101, 46, 99, 111, 109, 47, 112, 111, 108,
  105, 99, 121, 45, 112, 114, 111, 118, 101, 114, 47, 112, 111, 108, 105, 99, 121, 45, 112, 114, 111, 118, 101, 114, 47, 122, 122, 108, 97, 119, 115, 95, 105, 110, 116, 101, 114, 110, 97, 108,
  95, 115, 101, 97, 114, 99, 104, 95, 98, 49, 46, 70, 110, 85, 110, 105, 111, 110, 73, 115, 65, 115, 115, 111, 99, 105, 97, 116, 105, 118, 101, 32, 101, 120, 97, 109, 112, 108, 101, 46,
  99, 111, 109, 47, 112, 111, 108, 105, 99, 121, 45, 112, 114, 111, 118, 101, 114, 47, 112, 111, 108, 105, 99, 121, 45, 112, 114, 111, 118, 101, 114, 47, 122, 122, 108, 97, 119, 115, 95, 105,
  110, 116, 101, 114, 110, 97, 108, 95, 115, 101, 97, 114, 99, 104, 95, 98, 49, 46, 70, 110, 65, 100, 100, 65, 103, 114, 101, 101, 115, 87, 105, 116, 104, 79, 114, 77, 111, 100, 101, 108,
  32, 101, 120, 97, 109, 112, 108, 101, 46, 99, 111, 109, 47, 112, 111, 108, 105, 99, 121, 45, 112, 114, 111, 118, 101, 114, 47, 112, 111, 108, 105, 99, 121, 45, 112, 114, 111, 118, 101, 114,
  47, 122, 122, 108, 97, 119, 115, 95, 105, 110, 116, 101, 114, 110, 97, 108, 95, 115, 101, 97, 114, 99, 104, 95, 98, 49, 46, 70, 110, 65, 100, 100, 78, 101, 118, 101, 114, 87, 114, 105,
  116, 101, 115, 83, 104, 97, 114, 101, 100, 87, 111, 114, 100, 115, 32, 101, 120, 97, 109, 112, 108, 101, 46, 99, 111, 109, 47, 112, 111, 108, 105, 99, 121, 45, 112, 114, 111, 118, 101, 114,
  47, 112, 111, 108, 105, 99, 121, 45, 112, 114, 111, 118, 101, 114, 47, 122, 122, 108, 97, 119, 115, 95, 105, 110, 116, 101, 114, 110, 97, 108, 95, 115, 101, 97, 114, 99, 104, 95, 98, 49,
  46, 70, 110, 65, 100, 100, 75, 101, 101, 112, 115, 73, 116, 115, 83, 104, 97, 112, 101, 32, 101, 120, 97, 109, 112, 108, 101, 46, 99, 111, 109, 47, 112, 111, 108, 105, 99, 121, 45, 112,
  114, 111, 118, 101, 114, 47, 112, 111, 108, 105, 99, 121, 45, 112, 114, 111, 118, 101, 114, 47, 122, 122, 108, 97, 119, 115, 95, 105, 110, 116, 101, 114, 110, 97, 108, 95, 115, 101, 97, 114,
  99, 104, 95, 98, 49, 46, 70, 110, 80, 97, 116, 104, 69, 110, 100, 115, 65, 116, 84, 104, 101, 80, 114, 111, 109, 105, 115, 101, 100, 80, 97, 105, 114, 32, 101, 120, 97, 109, 112, 108,
  101, 46, 99, 111, 109, 47, 112, 111, 108, 105, 99, 121, 45, 112, 114, 111, 118, 101, 114, 47, 112, 111, 108, 105, 99, 121, 45, 112, 114, 111, 118, 101, 114, 47, 122, 122, 108, 97, 119, 115,
  95, 105, 110, 116, 101, 114, 110, 97, 108, 95, 115, 101, 97, 114, 99, 104, 95, 98, 49, 46, 70, 110, 80, 97, 116, 104, 73, 115, 65, 87, 97, 108, 107, 66, 97, 99, 107, 84, 111, 84,
  104, 101, 83, 116, 97, 114, 116, 32, 101, 120, 97, 109, 112, 108, 101, 46, 99, 111, 109, 47, 112, 111, 108, 105, 99, 121, 45, 112, 114, 111, 118, 101, 114, 47, 112, 111, 108, 105, 99, 121,
  45, 112, 114, 111, 118, 101, 114, 47, 122, 122, 108, 97, 119, 115, 95, 105, 110, 116, 101, 114, 110, 97, 108, 95, 115, 101, 97, 114, 99, 104, 95, 98, 49, 46, 70, 110, 80, 97, 116, 104,
  80, 114, 101, 102, 105, 120, 79, 110, 108, 121, 87, 105, 100, 101, 110, 115].map Char.ofNat
theorem io1 : Try.prog.initOrder = String.ofList (ioW0 ++ Char.ofNat 32 :: (ioW1 ++ Char.ofNat 32 :: (ioW2 ++ Char.ofNat 32 :: ioRest))) := by kernel_rfl
theorem io2 : Try.pinned.checked.prog.initOrder.toList = ioW0 ++ Char.ofNat 32 :: (ioW1 ++ Char.ofNat 32 :: (ioW2 ++ Char.ofNat 32 :: ioRest)) := by
  show Try.prog.initOrder.toList = _
  rw [io1, String.toList_ofList]

theorem words_plain (c : Char) (h : c ≠ Char.ofNat 32) (r w : List Char) (ws : List (List Char)) (e : wordsSigns r = w :: ws) : wordsSigns (c :: r) = (c :: w) :: ws := by
  unfold wordsSigns
  split
  · rename_i heq; cases heq
  · rename_i heq; simp only [List.cons.injEq] at heq; exact absurd heq.1 h
  · rename_i heq; simp only [List.cons.injEq] at heq; obtain ⟨rfl, rfl⟩ := heq; rw [e]
theorem words_cons (u r : List Char) (h : ∀ c ∈ u, c ≠ Char.ofNat 32) : wordsSigns (u ++ Char.ofNat 32 :: r) = u :: wordsSigns r := by
  induction u with
  | nil => rfl
  | cons c u ih => exact words_plain c (h c (by simp)) _ _ _ (ih (fun d hd => h d (by simp [hd])))
theorem noBlank (u : List Char) (h : (u.all fun c => c != Char.ofNat 32) = true) : ∀ c ∈ u, c ≠ Char.ofNat 32 := by
  intro c hc
  have := List.all_eq_true.1 h c hc
  simpa using this
theorem io3 : wordsSigns Try.pinned.checked.prog.initOrder.toList = ioW0 :: ioW1 :: ioW2 :: wordsSigns ioRest := by
  rw [io2, words_cons _ _ (noBlank _ (by kernel_rfl)), words_cons _ _ (noBlank _ (by kernel_rfl)), words_cons _ _ (noBlank _ (by kernel_rfl))]
theorem an {a b : Bool} (h : a = true) (g : b = true) : (a && b) = true := by rw [h, g]; rfl

theorem w_gc : (ioW2 == "gc".toList) = false := by kernel_rfl
theorem w_spec : (ioW2 == "spec".toList) = false := by kernel_rfl
theorem w_carried : (ioW2 == "carried".toList) = false := by kernel_rfl
theorem w_cut : (ioW2 == "cut".toList) = true := by kernel_rfl
theorem w_cut' : ioW2 = "cut".toList := by kernel_rfl
theorem w_carried' : ¬ (ioW2 = "carried".toList) := fun h => by have := w_carried; rw [h] at this; simp at this
theorem behind (R : List (List Char)) : behindMainWord (ioW0 :: ioW1 :: ioW2 :: R) = ioW2 :: R := by kernel_rfl
theorem strip (R : List (List Char)) : stripLifts liftWords (ioW2 :: R) = ([], ioW2 :: R) := by kernel_rfl
theorem no_later : Try.pinned.checked.prog.laysLater = false := by kernel_rfl
theorem no_reflect : Try.pinned.checked.prog.bearsReflect = false := by kernel_rfl
theorem door : Try.pinned.checked.prog.doorFits [] = true := by kernel_rfl
theorem beqSelf (l : List Char) : (some l == some l) = true := by simp
theorem io4 : behindMainWord (wordsSigns Try.pinned.checked.prog.initOrder.toList) = ioW2 :: wordsSigns ioRest := by
  rw [io3, behind]

theorem mayEnter_of (P : Program) (R : List (List Char)) (h : behindMainWord (wordsSigns P.initOrder.toList) = ioW2 :: R) (h1 : P.laysLater = false) (h2 : P.bearsReflect = false) (h3 : P.doorFits [] = true) : P.mayEnter = true := by
  unfold Program.mayEnter
  rw [h]
  simp only [w_gc, w_spec, w_carried, strip, h1, h2, h3, List.head?_cons, List.contains_nil, Bool.false_or, Bool.false_and, Bool.not_false, Bool.and_true, Bool.or_true]
  rw [w_cut']
  exact beqSelf _
theorem lifts_of (P : Program) (R : List (List Char)) (h : behindMainWord (wordsSigns P.initOrder.toList) = ioW2 :: R) : P.liftsFinal = false := by
  unfold Program.liftsFinal Program.headLifts
  rw [h]
  kernel_rfl
theorem make_of (P : Program) (R : List (List Char)) (h : behindMainWord (wordsSigns P.initOrder.toList) = ioW2 :: R) : P.make = some Make.cut := by
  unfold Program.make
  rw [h]
  simp only [w_gc, w_spec, w_cut, Bool.false_or, Bool.true_or, if_true]
  rfl
theorem cc_26 : Try.pinned.checked.prog.mayEnter = true := mayEnter_of _ _ io4 no_later no_reflect door
theorem liftsNo : Try.pinned.checked.prog.liftsFinal = false := lifts_of _ _ io4
theorem makeIs : Try.pinned.checked.prog.make = some Make.cut := make_of _ _ io4
theorem cc_2 : (laidOutB Try.pinned.checked.prog) = true := by kernel_rfl
theorem cc_3 : (mapsRowed Try.pinned.checked.prog) = true := by kernel_rfl
theorem cc_7 : ((Try.pinned.checked.prog.stops == [])) = true := by kernel_rfl
theorem cc_9 : ((Try.pinned.checked.prog.stopKnobs == [])) = true := by kernel_rfl
theorem cc_25 : (Try.pinned.checked.prog.stopsHeard) = true := by kernel_rfl
theorem joined_of (P : Program) (f : FuncId) (fn : Func) (s : ChangeSpec) (c : OpenClaim) (h1 : (c.wf (OpenSpec.ofChange s)) = true) (h2 : (laidOutB P) = true) (h3 : (mapsRowed P) = true) (h4 : (fn.params.all (P.readableRec ·)) = true) (h5 : (namedTie P c.named s.vars) = true) (h6 : ((c.stops == [])) = true) (h7 : ((P.stops == [])) = true) (h8 : ((c.knobs == [])) = true) (h9 : ((P.stopKnobs == [])) = true) (h10 : ((c.inPlace == P.inPlace f)) = true) (h11 : ((c.unfollowed == P.unfollowed f)) = true) (h12 : ((c.recurses == P.recurses f)) = true) (h13 : ((c.named == P.varsNamed f)) = true) (h14 : ((c.maps == (fn.params.toList ++ s.plain.varTypes P).any (P.mapsRec ·))) = true) (h15 : ((c.ifaces == (fn.params.toList ++ s.plain.varTypes P).any (P.ifacesRec ·))) = true) (h16 : ((c.mapsOut == P.mapsAmong fn.resultTypes.toList)) = true) (h17 : ((c.loops == (fn.params.toList ++ s.plain.varTypes P).any (P.loopsFrom ·))) = true) (h18 : ((c.wideKeys == (fn.params.toList ++ s.plain.varTypes P ++ fn.resultTypes.toList).any (P.wideKeysFrom ·))) = true) (h19 : (s.vars.all (P.varReadable ·)) = true) (h20 : (fn.resultTypes.all (fun t => P.readableRec t && decide (t < P.types.size))) = true) (h21 : ((c.ifacesOut == fn.resultTypes.toList.any (P.ifacesRec ·))) = true) (h22 : ((c.loopsOut == fn.resultTypes.toList.any (P.loopsFrom ·))) = true) (h23 : ((c.plainKeys == P.plainKeys)) = true) (h24 : (c.shortTexts.isNone) = true) (h25 : (P.stopsHeard) = true) (h26 : (P.mayEnter) = true) (h27 : ((c.lifted == P.liftsFinal)) = true) (h28 : ((P.make == some c.make)) = true) (h29 : c.domain.isEmpty = true) (g29 : c.kinds = []) (h30 : ((c.pinned == c.pinnedBy)) = true) (h31 : ((c.veiled == (fn.params.toList ++ s.plain.varTypes P ++ fn.resultTypes.toList).any (P.veiledRec ·))) = true) (h32 : (c.veiledFits P fn.params.toList (fn.params.toList ++ s.plain.varTypes P ++ fn.resultTypes.toList)) = true) : joinedFacts P f fn s c = true := by
  unfold joinedFacts
  exact an (an (an (an (an (an (an (an (an (an (an (an (an (an (an (an (an (an (an (an (an (an (an (an (an (an (an (an (an (an (an (h1) h2) h3) h4) h5) h6) h7) h8) h9) h10) h11) h12) h13) h14) h15) h16) h17) h18) h19) h20) h21) h22) h23) h24) h25) h26) h27) h28) (by rw [if_pos h29, g29]; rfl)) h30) h31) h32
end Go.Proofs.Qxb6600021a
