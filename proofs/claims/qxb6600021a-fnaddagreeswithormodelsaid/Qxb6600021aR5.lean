/-
  add (54) on a run that shares its words: the word is changed already; or the bit is there already.
-/
import Derived.Test.Qxb6600021aR4
namespace Go.Proofs.Qxb6600021a
open Go.RowKit
set_option linter.unusedVariables false

theorem cellsL_set (ch : List (Int × Int)) : ∀ (k : Nat) (x y : Int), cellsL (ch.set k (x, y)) = ((cellsL ch).set (k * 2) (.int .i64 x)).set (k * 2 + 1) (.int .u64 y) := by
  induction ch with
  | nil => intro k x y; simp [cellsL]
  | cons p ch ih =>
    intro k x y
    cases k with
    | zero => rfl
    | succ k =>
      have e1 : (k + 1) * 2 = k * 2 + 1 + 1 := by omega
      have := ih k x y
      simp only [cellsL, List.flatMap_cons, List.set_cons_succ, List.cons_append, List.nil_append, e1] at this ⊢
      rw [this]

theorem set_get {α : Type} {l : List α} {k : Nat} {x : α} (h : l[k]? = some x) : l.set k x = l := by
  apply List.ext_getElem?
  intro j
  rw [List.getElem?_set]
  by_cases e : k = j
  · subst e
    have hlt := (List.getElem?_eq_some_iff.1 h).1
    rw [if_pos rfl, if_pos hlt, h]
  · rw [if_neg e]

theorem cellsL_setbits (ch : List (Int × Int)) (k : Nat) (hk : k < ch.length) (y : Int) : cellsL (ch.set k (ix ch k, y)) = (cellsL ch).set (k * 2 + 1) (.int .u64 y) := by
  rw [cellsL_set, set_get (cellsL_ix ch k hk).1]

section
variable {w w1 wr : World} {base R : Nat} {ws : List Int} {own : Bool} {ch : List (Int × Int)} {vw vc v' : Value}
/-- A store into the bits of changed word k. -/
theorem run_set_bits {g n c k : Nat} {y : Int} (h : Run wr base R ws own ch vw (.slice (some ⟨g, 0, none⟩) n c)) (hn : ch.length = n) (hk : k < n) : Run (wr.setCell ⟨g, k * 2 + 1, none⟩ (.int .u64 y)) base R ws own (ch.set k (ix ch k, y)) vw (.slice (some ⟨g, 0, none⟩) n c) := by
  have ha := h.apart
  have hw := h.chg
  rw [hn] at hw
  have hs := hw.stored (k * 2 + 1) (.int .u64 y)
  refine ⟨?_, h.le, ?_, ?_⟩
  · rw [heap_setCell_other wr ⟨g, k * 2 + 1, none⟩ R _ (fun e => ha.2.1 (by rw [e]; rfl))]; exact h.blk
  · exact own_of_blocks h.words fun g' hg' => heap_setCell_other wr ⟨g, k * 2 + 1, none⟩ g' _ (fun e => ha.2.2 g' hg' (by rw [e]; rfl))
  · rw [List.length_set, hn, cellsL_setbits _ _ (by omega)]; exact hs.1
end

set_option maxHeartbeats 1000000 in
set_option maxRecDepth 100000 in
theorem add54_found {base R : Nat} {ws : List Int} {ch : List (Int × Int)} {vw vc : Value} (i : Nat) (b : Int) (k0 : Nat) (w : World) (h : Run w base R ws false ch vw vc) (hi : i ≤ 65536) (hn : ws.length ≤ 1048576) (hq : ch.length ≤ 8)
    (hk0 : k0 < ch.length) (hlow : ∀ j, j < k0 → ix ch j < i) (hat : ix ch k0 = i) :
    Calls Try.prog 54 #[.pointer (some ⟨R, 0, none⟩), .int .i64 (i : Int), .int .u64 b] w fun e w' => e = .returned (.tuple #[]) ∧ Run w' base R ws false (ch.set k0 (ix ch k0, orU (bt ch k0) b)) vw vc ∧ Below base w w' := by
  obtain ⟨c0, c1, c2, f0, f1, f2⟩ := h.cells
  obtain ⟨aw, cw, hvw, _, _, _⟩ := own_form h.words
  obtain ⟨ac, cc, hvc, hcp, hcm, hg⟩ := own_form h.chg
  obtain ⟨g, hac, hbg, hgs⟩ := hg (by omega)
  subst hac
  have hcw := h.chg
  have HR : Hid _ := h
  obtain ⟨q, hq'⟩ : ∃ q, q = ch.length := ⟨_, rfl⟩
  rw [← hq'] at hvc hcp hq hk0 hcw
  subst hvc hvw
  have HQ : Hid (q = ch.length) := hq'
  have hx : ∀ j, j < q → w.cell? ⟨g, j * 2, none⟩ = some (.int .i64 (ix ch j)) := fun j hj => by rw [hcw.cellAt _ (by omega)]; exact (cellsL_ix ch j (by rw [← HQ.out]; exact hj)).1
  have hy : w.cell? ⟨g, k0 * 2 + 1, none⟩ = some (.int .u64 (bt ch k0)) := by rw [hcw.cellAt _ (by omega)]; exact (cellsL_ix ch k0 (by rw [← HQ.out]; exact hk0)).2
  have hfz := hcw.frozenAt (k0 * 2 + 1)
  have HX : Hid _ := hx
  have HLow : Hid _ := hlow
  have hxk := hx k0 hk0
  rw [hat] at hxk
  have HAt : Hid (ix ch k0 = i) := hat
  clear h hq' hg hcw hx hlow hat
  go_enter Try.func54, Try.ntmps54
  go_wp2
  go_loopw [6] (fun s wr => ∃ k : Nat, k ≤ k0 ∧ s = .int .i64 k ∧ wr = w) (fun s _ => k0 - (intOf s).toNat)
  case atStart => exact ⟨0, by omega, rfl, rfl⟩
  case round =>
    obtain ⟨k, hk, rfl, rfl⟩ := hrel
    by_cases hlt : k < k0
    · have hxj := HX.out k (by omega)
      have hlj := HLow.out k hlt
      clear hxk hy hfz
      go_wp2
      go_roundw
      case rel => exact ⟨k + 1, by omega, by go_num, by trivial⟩
      case measure => simp [intOf]; omega
    · have hkk : k = k0 := by omega
      subst hkk
      go_wp2
      try simp only [Exit.inBlock, Exit.then]
      refine bodyPost_ret (results_none rfl _ _ _) rfl ?_
      exact ⟨rfl, run_set_bits HR.out HQ.out.symm hk0, below_run (Below.refl _ _) hbg⟩

end Go.Proofs.Qxb6600021a
