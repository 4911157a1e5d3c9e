/-
  add (54) on a run that shares its words: a new changed word is put in its place.
-/
import Derived.Test.Qxb6600021aR6
namespace Go.Proofs.Qxb6600021a
open Go.RowKit
set_option linter.unusedVariables false

theorem cellsL_take (L : List (Int × Int)) : ∀ k, cellsL (L.take k) = (cellsL L).take (k * 2) := by
  induction L with
  | nil => intro k; simp [cellsL]
  | cons p L ih =>
    intro k
    cases k with
    | zero => simp [cellsL]
    | succ k =>
      have e1 : (k + 1) * 2 = k * 2 + 1 + 1 := by omega
      have := ih k
      simp only [cellsL, List.take_succ_cons, List.flatMap_cons, List.cons_append, List.nil_append, e1] at this ⊢
      rw [this]
theorem cellsL_drop (L : List (Int × Int)) : ∀ k, cellsL (L.drop k) = (cellsL L).drop (k * 2) := by
  induction L with
  | nil => intro k; simp [cellsL]
  | cons p L ih =>
    intro k
    cases k with
    | zero => simp [cellsL]
    | succ k =>
      have e1 : (k + 1) * 2 = k * 2 + 1 + 1 := by omega
      have := ih k
      simp only [cellsL, List.drop_succ_cons, List.flatMap_cons, List.cons_append, List.nil_append, e1] at this ⊢
      rw [this]
theorem cellsL_one (L : List (Int × Int)) : ∀ u ∈ cellsL L, u.oneCell' = true := by
  intro u hu
  simp [cellsL] at hu
  obtain ⟨a, b, _, rfl | rfl⟩ := hu <;> rfl

/-- The changed words behind the append and the copy. -/
def shifted (ch : List (Int × Int)) (k : Nat) : List (Int × Int) := (ch ++ [(0, 0)]).take (k + 1) ++ ch.drop k
theorem shifted_length (ch : List (Int × Int)) (k : Nat) (hk : k ≤ ch.length) : (shifted ch k).length = ch.length + 1 := by
  unfold shifted
  rw [List.length_append, List.length_take, List.length_append, List.length_drop, List.length_singleton]; omega
theorem shifted_cells (ch : List (Int × Int)) (k q : Nat) (hq : q = ch.length) (hk : k ≤ q) :
    (cellsL (ch ++ [(0, 0)])).take ((k + 1) * 2) ++ (cellsL ch).drop (k * 2) ++ (cellsL (ch ++ [(0, 0)])).drop ((k + 1) * 2 + ((cellsL ch).drop (k * 2)).length) = cellsL (shifted ch k) := by
  subst hq
  unfold shifted
  have hd : (cellsL (ch ++ [(0, 0)])).drop ((k + 1) * 2 + ((cellsL ch).drop (k * 2)).length) = [] := by
    apply List.drop_eq_nil_of_le
    rw [cellsL_length, List.length_drop, cellsL_length, List.length_append, List.length_singleton]
    omega
  rw [hd, List.append_nil, cellsL_append (List.take _ _), cellsL_take, cellsL_drop]
theorem shifted_set (ch : List (Int × Int)) (k : Nat) (hk : k ≤ ch.length) (p : Int × Int) : (shifted ch k).set k p = ch.take k ++ p :: ch.drop k := by
  unfold shifted
  apply List.ext_getElem?
  intro j
  rw [List.getElem?_set]
  by_cases e : k = j
  · subst e
    rw [if_pos rfl, if_pos (by simp; omega)]
    rw [List.getElem?_append_right (by simp; omega)]
    simp [Nat.min_eq_left hk]
  · rw [if_neg e]
    by_cases hj : j < k
    · rw [List.getElem?_append_left (by simp; omega), List.getElem?_append_left (by simp; omega)]
      simp [hj, show j < k + 1 by omega, List.getElem?_append_left (show j < ch.length by omega)]
    · rw [List.getElem?_append_right (by simp; omega), List.getElem?_append_right (by simp; omega)]
      have e1 : (List.take (k + 1) (ch ++ [(0, 0)])).length = k + 1 := by simp; omega
      have e2 : (List.take k ch).length = k := by simp; omega
      rw [e1, e2]
      obtain ⟨m, rfl⟩ : ∃ m, j = k + 1 + m := ⟨j - (k + 1), by omega⟩
      have e3 : k + 1 + m - (k + 1) = m := by omega
      have e4 : k + 1 + m - k = m + 1 := by omega
      rw [e3, e4, List.getElem?_cons_succ]

/-- copy within a row of the call's own, as one step of a region that draws. -/
theorem step_copy_within {P : Program} {ops : Array Oper} {o : Oper} {a : Act} {w : World} {K : Act → World → Prop} {Q : Exit → Act → World → Prop} {E : Prop} (hgd : o.guard = none) (d s : Operand) (dT sT : TypeId)
    (ho : o.op = .call { callee := .builtin .copy, args := #[d, s], argTypes := #[dT, sT] }) (elem : TypeId) (i : TypeInfo) (size : Nat) (hu : P.underlying dT = some (.slice elem)) (hi : P.info? elem = some i) (hsz : i.size = size) (hs0 : 0 < size)
    (dp sp : Option Addr) (dLen dCap sLen sCap : Nat) (hd : a.eval d = .slice dp dLen dCap) (hs : a.eval s = .slice sp sLen sCap)
    (base g n cap : Nat) (xs : List Value) (hown : w.ownsRow base elem size (.slice (some ⟨g, 0, none⟩) n cap) n xs) (off soff : Nat) (cs : List Value) (hn : cs.length = Nat.min sLen dLen * size)
    (hpos : 0 < cs.length → dp = some ⟨g, off, none⟩ ∧ sp = some ⟨g, soff, none⟩) (hsrc : ∀ j, j < cs.length → xs[soff + j]? = cs[j]?) (hsf : soff + cs.length ≤ n * size)
    (hfit : off + cs.length ≤ n * size) (h1 : ∀ v ∈ cs, v.oneCell' = true)
    (h : ∀ w', w'.ownsRow base elem size (.slice (some ⟨g, 0, none⟩) n cap) n (xs.take off ++ cs ++ xs.drop (off + cs.length)) → w.grownBy w' (some g) → K (a.put o.dst (goInt (Nat.min sLen dLen))) w') :
    if Region.wanted o (yielded ops a.tmps) = true then Oper.wp P o a w K Q else E := by
  have hw : Region.wanted o (yielded ops a.tmps) = true := by simp [Region.wanted, hgd]
  rw [if_pos hw]
  subst hsz
  by_cases h0 : cs.length = 0
  · have hmin : Nat.min sLen dLen = 0 := by
      rw [h0] at hn
      rcases Nat.mul_eq_zero.1 hn.symm with e | e
      · exact e
      · omega
    obtain rfl : cs = [] := List.eq_nil_of_length_eq_zero h0
    have hrun := run_copy_zero (P := P) w dT sT o.type elem i dp sp dLen dCap sLen sCap hu hi hmin
    unfold Oper.wp
    simp [execOp, ho, resolve, invoke, builtin, hd, hs, hrun, Result.andThen]
    have hk := h w (by simpa using hown) (World.grownBy.refl _ _)
    rw [hmin] at hk
    exact hk
  · obtain ⟨rfl, rfl⟩ := hpos (by omega)
    have hcell := hown.cellAt
    rcases hown.2 with ⟨h', _⟩ | ⟨g', cap', cur, h', hb, hg, hnc, hcm, hcs, htake⟩
    · simp at h'
    · simp only [Value.slice.injEq, Option.some.injEq, Addr.mk.injEq, and_true, true_and] at h'
      obtain ⟨rfl, rfl⟩ := h'
      have hcl : n * i.size ≤ cur.size := by rw [hcs]; exact Nat.mul_le_mul_right _ hnc
      have hrun := run_copy_sz (P := P) w dT sT o.type elem i g off dLen dCap ⟨g, soff, none⟩ sLen sCap cur elem cs hu hi hg hn
        (fun j v hv => by
          have hj : j < cs.length := (List.getElem?_eq_some_iff.1 hv).1
          rw [Addr.add_lit, hcell (soff + j) (by omega), hsrc j hj]; exact hv) (by omega) h1
      unfold Oper.wp
      simp [execOp, ho, resolve, invoke, builtin, hd, hs, hrun, Result.andThen]
      have hxl := hown.1
      have hk := h (w.setRow g (cur.toList.take off ++ cs ++ cur.toList.drop (off + cs.length)).toArray) ⟨by simp; omega, .inr ⟨g, cap, _, rfl, hb, setRow_heap w g cur _ elem _ hg, hnc, hcm, ?_, ?_⟩⟩
        ⟨rfl, rfl, rfl, by simp [World.setRow], fun k _ hk => setRow_other w g k _ (fun e => hk (by simp [e]))⟩
      · simp only [List.append_assoc] at hk
        exact hk
      · simp; omega
      · have e1 : cur.toList = xs ++ cur.toList.drop (n * i.size) := by rw [← htake, List.take_append_drop]
        have hxs : xs.length = n * i.size := hxl
        rw [e1]
        have a1 : List.take off (xs ++ List.drop (n * i.size) cur.toList) = List.take off xs := by rw [List.take_append_of_le_length (by omega)]
        have a2 : List.drop (off + cs.length) (xs ++ List.drop (n * i.size) cur.toList) = List.drop (off + cs.length) xs ++ List.drop (n * i.size) cur.toList := by rw [List.drop_append_of_le_length (by omega)]
        rw [a1, a2, ← List.append_assoc]
        have hl2 : (List.take off xs ++ cs ++ List.drop (off + cs.length) xs).length = n * i.size := by simp; omega
        show List.take (n * i.size) (List.take off xs ++ cs ++ List.drop (off + cs.length) xs ++ _) = _
        rw [← hl2]
        exact List.take_left

section
variable {w w1 wr : World} {base R : Nat} {ws : List Int} {own : Bool} {ch : List (Int × Int)} {vw vc v' : Value}
/-- The changed words' row has been written within itself. -/
theorem run_turn_chg {g n c : Nat} {ch' : List (Int × Int)} (h : Run wr base R ws own ch vw (.slice (some ⟨g, 0, none⟩) n c)) (hn : ch'.length = n) (hown : w1.ownsRow base 118 2 (.slice (some ⟨g, 0, none⟩) n c) n (cellsL ch')) (hg : wr.grownBy w1 (some g)) :
    Run w1 base R ws own ch' vw (.slice (some ⟨g, 0, none⟩) n c) := by
  have ha := h.apart
  refine ⟨?_, h.le, ?_, by rw [hn]; exact hown⟩
  · rw [hg.block R h.lt (fun e => ha.2.1 (by rw [e]; rfl))]; exact h.blk
  · refine h.words.kept hg ?_
    cases hb : vw.ownBlock with
    | none => exact .inl rfl
    | some g' => exact .inr (fun e => ha.2.2 g' hb (by rw [e]; rfl))
/-- A store of a whole changed word. -/
theorem run_set_pair {g n c k : Nat} {x y : Int} (h : Run wr base R ws own ch vw (.slice (some ⟨g, 0, none⟩) n c)) (hn : ch.length = n) : Run ((wr.setCell ⟨g, k * 2, none⟩ (.int .i64 x)).setCell ⟨g, k * 2 + 1, none⟩ (.int .u64 y)) base R ws own (ch.set k (x, y)) vw (.slice (some ⟨g, 0, none⟩) n c) := by
  have ha := h.apart
  have hw := h.chg
  rw [hn] at hw
  have hs := (hw.stored (k * 2) (.int .i64 x)).1.stored (k * 2 + 1) (.int .u64 y)
  refine ⟨?_, h.le, ?_, ?_⟩
  · rw [heap_setCell_other _ ⟨g, k * 2 + 1, none⟩ R _ (fun e => ha.2.1 (by rw [e]; rfl)), heap_setCell_other wr ⟨g, k * 2, none⟩ R _ (fun e => ha.2.1 (by rw [e]; rfl))]; exact h.blk
  · exact own_of_blocks h.words fun g' hg' => by rw [heap_setCell_other _ ⟨g, k * 2 + 1, none⟩ g' _ (fun e => ha.2.2 g' hg' (by rw [e]; rfl)), heap_setCell_other wr ⟨g, k * 2, none⟩ g' _ (fun e => ha.2.2 g' hg' (by rw [e]; rfl))]
  · rw [List.length_set, hn, cellsL_set]; exact hs.1
end

end Go.Proofs.Qxb6600021a
