/-
  Plain mathematics of add: what the run reads as (views); the OR model.
-/
import Derived.Test.Qxb6600021aAdd
namespace Go.Proofs.Qxb6600021a
set_option linter.unusedVariables false

/-- Word k as the run reads it. -/
def viewW (ws : List Int) (ch : List (Int × Int)) (k : Nat) : Int := if (fnd ch k).2 = true then (fnd ch k).1 else wd ws k
def view (s : St) (k : Nat) : Int := viewW s.ws s.ch k

/-! ### bits -/
theorem orU_range (x y : Int) : 0 ≤ orU x y ∧ orU x y < 18446744073709551616 := by
  unfold orU bits
  rw [IntKind.wrap_u64]
  omega
theorem and_pow {b : Nat} : 0 < b → b &&& (b - 1) = 0 → ∃ m, b = 2 ^ m := by
  induction b using Nat.strongRecOn with
  | _ b ih =>
    intro hb h
    have h2 : (b &&& (b - 1)) / 2 = 0 := by rw [h]
    have e : (b &&& (b - 1)) / 2 = b / 2 &&& (b - 1) / 2 := by
      apply Nat.eq_of_testBit_eq
      intro i
      simp [Nat.testBit_div_two, Nat.testBit_and]
    rw [e] at h2
    by_cases hodd : b % 2 = 1
    · have e2 : (b - 1) / 2 = b / 2 := by omega
      rw [e2, Nat.and_self] at h2
      exact ⟨0, by omega⟩
    · have e2 : (b - 1) / 2 = b / 2 - 1 := by omega
      rw [e2] at h2
      obtain ⟨m, hm⟩ := ih (b / 2) (by omega) (by omega) h2
      exact ⟨m + 1, by rw [Nat.pow_succ, ← hm]; omega⟩
theorem or_keeps {s b : Nat} (hb : 0 < b) (h : b &&& (b - 1) = 0) (hs : s &&& b ≠ 0) : s ||| b = s := by
  obtain ⟨m, rfl⟩ := and_pow hb h
  have ht : s.testBit m = true := by
    cases ht : s.testBit m with
    | true => rfl
    | false =>
      refine absurd ?_ hs
      apply Nat.eq_of_testBit_eq
      intro i
      rw [Nat.testBit_and, Nat.zero_testBit, Nat.testBit_two_pow]
      by_cases e : m = i
      · subst e; rw [ht]; rfl
      · simp [e]
  apply Nat.eq_of_testBit_eq
  intro i
  rw [Nat.testBit_or, Nat.testBit_two_pow]
  by_cases e : m = i
  · subst e; rw [ht]; rfl
  · simp [e]

/-- A bit that is zero or single. -/
def sgl (b : Int) : Prop := andU b ((b - 1) % 18446744073709551616) = 0

theorem orU_keeps {s b : Int} (s0 : 0 ≤ s) (s1 : s < 18446744073709551616) (b0 : 0 ≤ b) (b1 : b < 18446744073709551616) (h : sgl b) (hs : andU s b ≠ 0) : orU s b = s := by
  unfold andU at hs
  rw [u64_and s b s0 s1 b0 b1] at hs
  have hs' : s.toNat &&& b.toNat ≠ 0 := fun e => hs (by rw [e]; rfl)
  have hb : 0 < b.toNat := by
    rcases Nat.eq_zero_or_pos b.toNat with e | e
    · rw [e, Nat.and_zero] at hs'; exact absurd rfl hs'
    · exact e
  unfold sgl andU at h
  have e1 : (b - 1) % 18446744073709551616 = b - 1 := by omega
  rw [e1, u64_and b (b - 1) b0 b1 (by omega) (by omega)] at h
  have e2 : (b - 1).toNat = b.toNat - 1 := by omega
  rw [e2] at h
  rw [orU_nat s b s0 s1 b0 b1, or_keeps hb (by omega) hs']
  omega

/-! ### words -/
theorem wd_set (l : List Int) (i : Nat) (x : Int) (hi : i < l.length) (k : Nat) : wd (l.set i x) k = if k = i then x else wd l k := by
  unfold wd
  simp only [List.getD_eq_getElem?_getD, List.getElem?_set]
  by_cases e : i = k
  · subst e; rw [if_pos rfl, if_pos hi, if_pos rfl]; rfl
  · rw [if_neg e, if_neg (fun h => e h.symm)]
theorem wd_setW (l : List Int) (i : Nat) (b : Int) (hi : i < l.length) (k : Nat) : wd (setW l i b) k = if k = i then orU (wd l i) b else wd l k := wd_set l i _ hi k
theorem wd_pad (ws : List Int) (N : Nat) (k : Nat) : wd (pad ws N) k = wd ws k := by
  unfold wd pad zeros
  simp only [List.getD_eq_getElem?_getD]
  by_cases h : k < ws.length
  · rw [List.getElem?_append_left h]
  · rw [List.getElem?_append_right (by omega), List.getElem?_replicate, List.getElem?_eq_none (by omega)]
    split <;> rfl

theorem fnd_none_of {ch : List (Int × Int)} {i : Int} (h : Inc ch) (hf : ¬ (lead ch i < ch.length ∧ ix ch (lead ch i) = i)) : ∀ j, j < ch.length → ix ch j ≠ i := by
  intro j hj e
  have h1 := lead_low ch i
  have h2 := lead_high ch i
  by_cases hl : j < lead ch i
  · have := h1 j hl; omega
  · have h3 : lead ch i < ch.length := by omega
    have h4 := h2 h3
    by_cases e2 : j = lead ch i
    · exact hf ⟨h3, by rw [← e2]; exact e⟩
    · have := h (lead ch i) j (by omega) hj; omega

theorem fnd_find (ch : List (Int × Int)) (z : Int) (h : (fnd ch z).2 = true) : ∃ j, j < ch.length ∧ ix ch j = z ∧ fnd ch z = (bt ch j, true) := by
  induction ch with
  | nil => simp [fnd] at h
  | cons p l ih =>
    rw [fnd] at h ⊢
    by_cases e : p.1 = z
    · rw [if_pos e]; exact ⟨0, by simp, e, rfl⟩
    · rw [if_neg e] at h ⊢
      obtain ⟨j, h1, h2, h3⟩ := ih h
      exact ⟨j + 1, by simpa using h1, h2, h3⟩

/-- Two sorted lists with the same entries look up alike. -/
theorem fnd_same {ch ch' : List (Int × Int)} {z : Int} (h' : Inc ch') (hz : ∀ j, j < ch.length → ix ch j = z → ∃ j', j' < ch'.length ∧ ix ch' j' = z ∧ bt ch' j' = bt ch j) (hz' : ∀ j', j' < ch'.length → ix ch' j' = z → ∃ j, j < ch.length ∧ ix ch j = z) : fnd ch' z = fnd ch z := by
  cases hf : (fnd ch z).2 with
  | true =>
    obtain ⟨j, h1, h2, h3⟩ := fnd_find ch z hf
    obtain ⟨j', g1, g2, g3⟩ := hz j h1 h2
    rw [h3, fnd_at h' g1 g2, g3]
  | false =>
    have hn : ∀ j, j < ch.length → ix ch j ≠ z := by
      intro j hj e
      have : (fnd ch z).2 = true := by
        clear hz hz' hf
        induction ch generalizing j with
        | nil => simp at hj
        | cons p l ih =>
          rw [fnd]
          by_cases e1 : p.1 = z
          · rw [if_pos e1]
          · rw [if_neg e1]
            cases j with
            | zero => exact absurd e e1
            | succ j => exact ih j (by simpa using hj) e
      rw [hf] at this; cases this
    rw [fnd_none hn]
    refine fnd_none fun j' hj' e => ?_
    obtain ⟨j, h1, h2⟩ := hz' j' hj' e
    exact hn j h1 h2

theorem over_wd (ch : List (Int × Int)) (h : Inc ch) : ∀ (l : List Int), (∀ j, j < ch.length → 0 ≤ ix ch j ∧ ix ch j < (l.length : Int)) → ∀ k : Nat, wd (over l ch) k = if (fnd ch k).2 = true then (fnd ch k).1 else wd l k := by
  induction ch with
  | nil => intro l _ k; simp [over, fnd]
  | cons p ch ih =>
    intro l hl k
    have h0 := hl 0 (by simp)
    rw [ix_zero] at h0
    have hinc : Inc ch := fun a c h1 h2 => by have := h (a + 1) (c + 1) (by omega) (by simpa using h2); simpa [ix_succ] using this
    rw [over, ih hinc (l.set p.1.toNat p.2) (fun j hj => by have := hl (j + 1) (by simpa using hj); rw [ix_succ] at this; simpa using this) k]
    rw [fnd]
    by_cases e : p.1 = (k : Int)
    · have hn : fnd ch k = (0, false) := by
        refine fnd_none fun j hj e2 => ?_
        have := h 0 (j + 1) (by omega) (by simpa using hj)
        rw [ix_zero, ix_succ] at this
        omega
      rw [hn, if_pos e, if_neg (by decide), if_pos rfl, wd_set l _ _ (by omega), if_pos (by omega)]
    · have e' : ¬ k = p.1.toNat := by omega
      rw [if_neg e, wd_set l _ _ (by omega), if_neg e']

/-- The numbers of a state are in range. -/
def Rng (s : St) : Prop := (∀ k, 0 ≤ wd s.ws k ∧ wd s.ws k < 18446744073709551616) ∧ ∀ j, j < s.ch.length → 0 ≤ bt s.ch j ∧ bt s.ch j < 18446744073709551616

theorem add_view (s : St) (h : Inv s) (hr : Rng s) (i : Nat) (b : Int) (hi : i ≤ 65536) (b0 : 0 ≤ b) (b1 : b < 18446744073709551616) (hb : sgl b) :
    (∀ k, view (addSt s i b) k = if k = i then orU (view s i) b else view s k) ∧ Rng (addSt s i b) ∧ len (addSt s i b) = max (len s) ((i : Int) + 1) := by
  have hbd := len_bounds s h
  have hl1 := lead_le s.ch i
  have hsh := add_shape s h i b hi
  revert hsh
  unfold addSt
  split
  · rename_i ho
    intro hsh
    have hc := h.own ho
    have hL : (setW (pad s.ws (i + 1)) i b).length = max s.ws.length (i + 1) := by rw [setW_length, pad_length]
    have hpl : i < (pad s.ws (i + 1)).length := by rw [pad_length]; omega
    have hv : ∀ k, wd (setW (pad s.ws (i + 1)) i b) k = if k = i then orU (wd s.ws i) b else wd s.ws k := fun k => by rw [wd_setW _ _ _ hpl, wd_pad, wd_pad]
    refine ⟨fun k => ?_, ⟨fun k => ?_, fun j hj => ?_⟩, ?_⟩
    · unfold view viewW
      show (if (fnd s.ch k).2 = true then _ else wd (setW _ _ _) k) = _
      rw [hc, hv]
      simp [fnd]
    · show 0 ≤ wd (setW _ _ _) k ∧ wd (setW _ _ _) k < _
      rw [hv]
      split
      · exact orU_range _ _
      · exact hr.1 k
    · exact hr.2 j hj
    · rw [len_nil _ hc, len_nil ⟨_, true, s.ch⟩ hc]; show ((setW _ _ _).length : Int) = _; rw [hL]; omega
  · rename_i ho
    split
    · rename_i hf
      intro hsh
      obtain ⟨hk, he⟩ := hf
      have hix : ∀ j, ix (s.ch.set (lead s.ch i) (ix s.ch (lead s.ch i), orU (bt s.ch (lead s.ch i)) b)) j = ix s.ch j := by
        intro j; rw [ix_set _ _ _ hk]; split
        · rename_i e; rw [e]
        · rfl
      have hbt := bt_set s.ch (lead s.ch i) (ix s.ch (lead s.ch i), orU (bt s.ch (lead s.ch i)) b) hk
      have hlen : (s.ch.set (lead s.ch i) (ix s.ch (lead s.ch i), orU (bt s.ch (lead s.ch i)) b)).length = s.ch.length := List.length_set
      have hinc : Inc (s.ch.set (lead s.ch i) (ix s.ch (lead s.ch i), orU (bt s.ch (lead s.ch i)) b)) := hsh.1.inc
      refine ⟨fun k => ?_, ⟨hr.1, fun j hj => ?_⟩, ?_⟩
      · unfold view viewW
        show (if (fnd (s.ch.set _ _) k).2 = true then (fnd (s.ch.set _ _) k).1 else wd s.ws k) = _
        by_cases e : k = i
        · subst e
          rw [fnd_at hinc (by rw [hlen]; exact hk) (by rw [hix]; exact he), fnd_at h.inc hk he, hbt, if_pos rfl, if_pos rfl, if_pos rfl]
          simp
        · rw [if_neg e]
          have e2 : fnd (s.ch.set (lead s.ch i) (ix s.ch (lead s.ch i), orU (bt s.ch (lead s.ch i)) b)) k = fnd s.ch k := by
            refine fnd_same hinc (fun j h1 h2 => ⟨j, by rw [hlen]; exact h1, by rw [hix]; exact h2, ?_⟩) (fun j h1 h2 => ⟨j, by rw [hlen] at h1; exact h1, by rw [hix] at h2; exact h2⟩)
            rw [hbt, if_neg (fun e3 => e (by subst e3; omega))]
          rw [e2]
      · have hj' : j < s.ch.length := by rw [← hlen]; exact hj
        show 0 ≤ bt (s.ch.set _ _) j ∧ bt (s.ch.set _ _) j < _
        rw [hbt]
        split
        · exact orU_range _ _
        · exact hr.2 j hj'
      · rw [len_last s (by omega), len_last ⟨_, false, _⟩ (by show 0 < (s.ch.set _ _).length; rw [hlen]; omega)]
        show max (s.ws.length : Int) (ix (s.ch.set _ _) ((s.ch.set _ _).length - 1) + 1) = _
        rw [hlen, hix]
        have := hbd.2.2 _ hk
        rw [len_last s (by omega)] at this
        omega
    · rename_i hf
      have hnone := fnd_none_of h.inc hf
      have hfi : fnd s.ch i = (0, false) := fnd_none hnone
      split
      · rename_i hbit
        intro hsh
        have hin : i < s.ws.length := by
          by_cases hin : i < s.ws.length
          · exact hin
          · rw [wd_out0 hin, andU_zero0] at hbit; exact absurd rfl hbit
        have hk := orU_keeps (hr.1 i).1 (hr.1 i).2 b0 b1 hb hbit
        refine ⟨fun k => ?_, hr, ?_⟩
        · show viewW s.ws s.ch k = _
          by_cases e : k = i
          · subst e
            rw [if_pos rfl]
            have ev : view s k = wd s.ws k := by unfold view viewW; rw [hfi]; rfl
            rw [ev, hk]
            exact ev
          · rw [if_neg e]; rfl
        · show len s = _
          omega
      · split
        · intro hsh
          have hil := ins_length s.ch (lead s.ch i) ((i : Int), orU (wd s.ws i) b) hl1
          have hix := ix_ins s.ch (lead s.ch i) ((i : Int), orU (wd s.ws i) b) hl1
          have hbt := bt_ins s.ch (lead s.ch i) ((i : Int), orU (wd s.ws i) b) hl1
          have hinc : Inc (ins s.ch (lead s.ch i) ((i : Int), orU (wd s.ws i) b)) := hsh.1.inc
          have hlow := lead_low s.ch i
          have hhi := lead_high s.ch i
          refine ⟨fun k => ?_, ⟨hr.1, fun j hj => ?_⟩, ?_⟩
          · show viewW s.ws (ins _ _ _) k = _
            by_cases e : k = i
            · subst e
              have e1 : fnd (ins s.ch (lead s.ch k) ((k : Int), orU (wd s.ws k) b)) k = (orU (wd s.ws k) b, true) := by
                rw [fnd_at hinc (i := lead s.ch k) (by rw [hil]; omega) (by rw [hix, if_neg (by omega), if_pos rfl]), hbt, if_neg (by omega), if_pos rfl]
              unfold view viewW
              rw [e1, hfi, if_pos rfl, if_pos rfl]
              rfl
            · rw [if_neg e]
              have e2 : fnd (ins s.ch (lead s.ch i) ((i : Int), orU (wd s.ws i) b)) k = fnd s.ch k := by
                refine fnd_same hinc (fun j h1 h2 => ?_) (fun j h1 h2 => ?_)
                · by_cases hj : j < lead s.ch i
                  · exact ⟨j, by rw [hil]; omega, by rw [hix, if_pos hj]; exact h2, by rw [hbt, if_pos hj]⟩
                  · exact ⟨j + 1, by rw [hil]; omega, by rw [hix, if_neg (by omega), if_neg (by omega)]; exact h2, by rw [hbt, if_neg (by omega), if_neg (by omega)]; rfl⟩
                · rw [hil] at h1
                  rw [hix] at h2
                  by_cases hj : j < lead s.ch i
                  · rw [if_pos hj] at h2; exact ⟨j, by omega, h2⟩
                  · rw [if_neg hj] at h2
                    by_cases hj2 : j = lead s.ch i
                    · rw [if_pos hj2] at h2; exact absurd h2 (by show ¬ (i : Int) = k; omega)
                    · rw [if_neg hj2] at h2; exact ⟨j - 1, by omega, h2⟩
              unfold view viewW
              rw [e2]
          · have hj' : j < s.ch.length + 1 := by rw [← hil]; exact hj
            show 0 ≤ bt (ins _ _ _) j ∧ bt (ins _ _ _) j < _
            rw [hbt]
            split
            · exact hr.2 j (by omega)
            · split
              · exact orU_range _ _
              · exact hr.2 (j - 1) (by omega)
          · rw [len_last ⟨_, false, _⟩ (by show 0 < (ins _ _ _).length; rw [hil]; omega)]
            show max (s.ws.length : Int) (ix (ins s.ch _ _) ((ins s.ch _ _).length - 1) + 1) = _
            rw [hil, Nat.add_sub_cancel, hix, if_neg (by omega)]
            by_cases e0 : s.ch.length = 0
            · have : s.ch = [] := List.eq_nil_of_length_eq_zero e0
              rw [len_nil s this, if_pos (by omega)]
            · rw [len_last s (by omega)]
              by_cases e : s.ch.length = lead s.ch i
              · rw [if_pos e]; have := hlow (s.ch.length - 1) (by omega); show max _ ((i : Int) + 1) = _; omega
              · rw [if_neg e]
                have h3 := hhi (by omega)
                by_cases e4 : s.ch.length - 1 = lead s.ch i
                · rw [e4]; omega
                · have := h.inc (lead s.ch i) (s.ch.length - 1) (by omega) (by omega); omega
        · intro hsh
          have hrl : (s.ws.length : Int) ≤ runLen s.ws s.ch := hbd.1
          have hN : (newLen s.ws s.ch i : Int) = max (len s) ((i : Int) + 1) := by
            have e : len s = runLen s.ws s.ch := rfl
            unfold newLen; omega
          have hpl : (pad s.ws (newLen s.ws s.ch i)).length = newLen s.ws s.ch i := by rw [pad_length]; unfold newLen; omega
          have hol : (over (pad s.ws (newLen s.ws s.ch i)) s.ch).length = newLen s.ws s.ch i := by rw [over_length, hpl]
          have hov := over_wd s.ch h.inc (pad s.ws (newLen s.ws s.ch i)) (fun j hj => ⟨(h.rng j hj).1, by rw [hpl, hN]; have := hbd.2.2 j hj; omega⟩)
          have hv : ∀ k, wd (setW (over (pad s.ws (newLen s.ws s.ch i)) s.ch) i b) k = if k = i then orU (view s i) b else view s k := fun k => by
            rw [wd_setW _ _ _ (by rw [hol]; omega), hov, hov, wd_pad, wd_pad]; rfl
          refine ⟨fun k => ?_, ⟨fun k => ?_, fun j hj => by simp at hj⟩, ?_⟩
          · show viewW (setW _ _ _) [] k = _
            rw [← hv]
            unfold viewW
            simp [fnd]
          · show 0 ≤ wd (setW _ _ _) k ∧ wd (setW _ _ _) k < _
            rw [hv]
            split
            · exact orU_range _ _
            · unfold view viewW
              split
              · rename_i hf2
                obtain ⟨j, h1, h2, h3⟩ := fnd_find s.ch k hf2
                rw [h3]; exact hr.2 j h1
              · exact hr.1 k
          · rw [len_nil ⟨_, true, []⟩ rfl]; show ((setW _ _ _).length : Int) = _; rw [setW_length, hol, hN]

end Go.Proofs.Qxb6600021a
