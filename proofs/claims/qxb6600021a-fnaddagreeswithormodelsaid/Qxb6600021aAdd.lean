/-
  Plain mathematics of add: the state it leaves; its shape.
-/
import Derived.Test.Qxb6600021aMerge
import Derived.Test.Qxb6600021aR3
namespace Go.Proofs.Qxb6600021a
set_option linter.unusedVariables false

/-- How many changed words lie ahead of index i. -/
def lead : List (Int × Int) → Int → Nat
  | [], _ => 0
  | p :: l, i => if p.1 < i then lead l i + 1 else 0

theorem lead_le (ch : List (Int × Int)) (i : Int) : lead ch i ≤ ch.length := by
  induction ch with
  | nil => simp [lead]
  | cons p l ih => rw [lead]; split <;> simp <;> omega
theorem lead_low (ch : List (Int × Int)) (i : Int) : ∀ j, j < lead ch i → ix ch j < i := by
  induction ch with
  | nil => intro j h; simp [lead] at h
  | cons p l ih =>
    intro j h
    rw [lead] at h
    split at h
    · cases j with
      | zero => rw [ix_zero]; assumption
      | succ j => rw [ix_succ]; exact ih j (by omega)
    · omega
theorem lead_high (ch : List (Int × Int)) (i : Int) : lead ch i < ch.length → i ≤ ix ch (lead ch i) := by
  induction ch with
  | nil => intro h; simp [lead] at h
  | cons p l ih =>
    intro h
    rw [lead] at h ⊢
    split
    · rename_i hp
      rw [if_pos hp] at h
      rw [ix_succ]; exact ih (by simpa using h)
    · rename_i hp
      rw [ix_zero]; omega

def ins (ch : List (Int × Int)) (k : Nat) (p : Int × Int) : List (Int × Int) := ch.take k ++ p :: ch.drop k
theorem ins_length (ch : List (Int × Int)) (k : Nat) (p : Int × Int) (hk : k ≤ ch.length) : (ins ch k p).length = ch.length + 1 := by
  unfold ins; rw [List.length_append, List.length_take, List.length_cons, List.length_drop]; omega
theorem getD_ins (ch : List (Int × Int)) (k : Nat) (p : Int × Int) (hk : k ≤ ch.length) (j : Nat) : (ins ch k p).getD j (0, 0) = if j < k then ch.getD j (0, 0) else if j = k then p else ch.getD (j - 1) (0, 0) := by
  unfold ins
  simp only [List.getD_eq_getElem?_getD]
  have e2 : (List.take k ch).length = k := by rw [List.length_take]; omega
  split
  · rename_i h
    rw [List.getElem?_append_left (by omega), List.getElem?_take, if_pos h]
  · rename_i h
    rw [List.getElem?_append_right (by omega), e2]
    split
    · rename_i h2; subst h2; simp
    · rename_i h2
      obtain ⟨m, rfl⟩ : ∃ m, j = k + 1 + m := ⟨j - (k + 1), by omega⟩
      have e3 : k + 1 + m - k = m + 1 := by omega
      have e4 : k + 1 + m - 1 = k + m := by omega
      rw [e3, e4, List.getElem?_cons_succ, List.getElem?_drop]
theorem ix_ins (ch : List (Int × Int)) (k : Nat) (p : Int × Int) (hk : k ≤ ch.length) (j : Nat) : ix (ins ch k p) j = if j < k then ix ch j else if j = k then p.1 else ix ch (j - 1) := by
  unfold ix; rw [getD_ins ch k p hk]; split; rfl; split <;> rfl
theorem bt_ins (ch : List (Int × Int)) (k : Nat) (p : Int × Int) (hk : k ≤ ch.length) (j : Nat) : bt (ins ch k p) j = if j < k then bt ch j else if j = k then p.2 else bt ch (j - 1) := by
  unfold bt; rw [getD_ins ch k p hk]; split; rfl; split <;> rfl
theorem getD_set (ch : List (Int × Int)) (k : Nat) (p : Int × Int) (hk : k < ch.length) (j : Nat) : (ch.set k p).getD j (0, 0) = if j = k then p else ch.getD j (0, 0) := by
  simp only [List.getD_eq_getElem?_getD, List.getElem?_set]
  by_cases e : k = j
  · subst e; rw [if_pos rfl, if_pos hk, if_pos rfl]; rfl
  · rw [if_neg e, if_neg (fun h => e h.symm)]
theorem ix_set (ch : List (Int × Int)) (k : Nat) (p : Int × Int) (hk : k < ch.length) (j : Nat) : ix (ch.set k p) j = if j = k then p.1 else ix ch j := by
  unfold ix; rw [getD_set ch k p hk]; split <;> rfl
theorem bt_set (ch : List (Int × Int)) (k : Nat) (p : Int × Int) (hk : k < ch.length) (j : Nat) : bt (ch.set k p) j = if j = k then p.2 else bt ch j := by
  unfold bt; rw [getD_set ch k p hk]; split <;> rfl

structure St where
  ws : List Int
  own : Bool
  ch : List (Int × Int)

/-- The size of the words that a run makes when it copies them. -/
def newLen (ws : List Int) (ch : List (Int × Int)) (i : Nat) : Nat := max (runLen ws ch).toNat (i + 1)

/-- What add leaves. -/
def addSt (s : St) (i : Nat) (b : Int) : St :=
  if s.own = true then ⟨setW (pad s.ws (i + 1)) i b, true, s.ch⟩
  else if lead s.ch i < s.ch.length ∧ ix s.ch (lead s.ch i) = i then ⟨s.ws, false, s.ch.set (lead s.ch i) (ix s.ch (lead s.ch i), orU (bt s.ch (lead s.ch i)) b)⟩
  else if andU (wd s.ws i) b ≠ 0 then ⟨s.ws, false, s.ch⟩
  else if s.ch.length < 8 then ⟨s.ws, false, ins s.ch (lead s.ch i) ((i : Int), orU (wd s.ws i) b)⟩
  else ⟨setW (over (pad s.ws (newLen s.ws s.ch i)) s.ch) i b, true, []⟩

structure Inv (s : St) : Prop where
  own : s.own = true → s.ch = []
  few : s.ch.length ≤ 8
  inc : Inc s.ch
  rng : ∀ j, j < s.ch.length → 0 ≤ ix s.ch j ∧ ix s.ch j ≤ 65536
  wsl : s.ws.length ≤ 65537

def len (s : St) : Int := runLen s.ws s.ch

theorem len_bounds (s : St) (h : Inv s) : (s.ws.length : Int) ≤ len s ∧ len s ≤ 65537 ∧ ∀ j, j < s.ch.length → ix s.ch j < len s := by
  have hw := h.wsl
  unfold len runLen
  split
  · rename_i h0
    exact ⟨by omega, by omega, fun j hj => by omega⟩
  · rename_i h0
    have hl := h.rng (s.ch.length - 1) (by omega)
    refine ⟨by omega, by omega, fun j hj => ?_⟩
    by_cases e : j = s.ch.length - 1
    · rw [e]; omega
    · have := h.inc j (s.ch.length - 1) (by omega) (by omega); omega

theorem len_last (s : St) (h : 0 < s.ch.length) : len s = max (s.ws.length : Int) (ix s.ch (s.ch.length - 1) + 1) := by
  unfold len runLen; rw [if_neg (by omega)]
theorem len_nil (s : St) (h : s.ch = []) : len s = s.ws.length := by
  unfold len runLen; rw [h]; simp

theorem wd_out0 {ws : List Int} {i : Nat} (h : ¬ i < ws.length) : wd ws i = 0 := by
  simp [wd, List.getD, show ws.length ≤ i by omega]
theorem andU_zero0 (b : Int) : andU 0 b = 0 := by
  have e : (BitVec.ofInt 64 0 &&& BitVec.ofInt 64 b) = 0#64 := by simp
  unfold andU bits
  show IntKind.wrap .u64 (((BitVec.ofInt 64 0 &&& BitVec.ofInt 64 b).toNat : Nat) : Int) = 0
  rw [e]
  rfl

/-- The shape behind an add. -/
theorem add_shape (s : St) (h : Inv s) (i : Nat) (b : Int) (hi : i ≤ 65536) : Inv (addSt s i b) ∧ (i : Int) < len (addSt s i b) ∧ len s ≤ len (addSt s i b) ∧ (s.own = true → (addSt s i b).own = true) := by
  have hb := len_bounds s h
  have hl1 := lead_le s.ch i
  have hl2 := lead_low s.ch i
  have hl3 := lead_high s.ch i
  unfold addSt
  split
  · rename_i ho
    have hc := h.own ho
    have hL : (setW (pad s.ws (i + 1)) i b).length = max s.ws.length (i + 1) := by rw [setW_length, pad_length]
    have hw := h.wsl
    refine ⟨⟨fun _ => hc, h.few, h.inc, h.rng, by show (setW (pad s.ws (i + 1)) i b).length ≤ 65537; rw [hL]; omega⟩, ?_, ?_, fun _ => rfl⟩
    · rw [len_nil _ (by exact hc)]; show (i : Int) < ((setW (pad s.ws (i + 1)) i b).length : Int); rw [hL]; omega
    · rw [len_nil _ hc, len_nil _ (by exact hc)]; show (s.ws.length : Int) ≤ ((setW (pad s.ws (i + 1)) i b).length : Int); rw [hL]; omega
  · rename_i ho
    split
    · rename_i hf
      obtain ⟨hk, he⟩ := hf
      have hix : ∀ j, ix (s.ch.set (lead s.ch i) (ix s.ch (lead s.ch i), orU (bt s.ch (lead s.ch i)) b)) j = ix s.ch j := by
        intro j; rw [ix_set _ _ _ hk]; split
        · rename_i e; rw [e]
        · rfl
      have hlen : len ⟨s.ws, false, s.ch.set (lead s.ch i) (ix s.ch (lead s.ch i), orU (bt s.ch (lead s.ch i)) b)⟩ = len s := by
        rw [len_last s (by omega), len_last _ (by show 0 < (List.set _ _ _).length; rw [List.length_set]; omega)]
        show max (s.ws.length : Int) (ix (s.ch.set _ _) ((s.ch.set _ _).length - 1) + 1) = _
        rw [hix, List.length_set]
      have hlt := hb.2.2 _ hk
      rw [hlen]
      refine ⟨⟨fun e => by simp at e, by show (List.set _ _ _).length ≤ 8; rw [List.length_set]; exact h.few, fun a c h1 h2 => ?_, fun j hj => ?_, h.wsl⟩, by omega, by omega, fun e => absurd e ho⟩
      · show ix (s.ch.set _ _) a < ix (s.ch.set _ _) c
        rw [hix, hix]; exact h.inc a c h1 (by simpa using h2)
      · show 0 ≤ ix (s.ch.set _ _) j ∧ ix (s.ch.set _ _) j ≤ 65536
        rw [hix]; exact h.rng j (by simpa using hj)
    · rename_i hf
      split
      · rename_i hbit
        have hin : i < s.ws.length := by
          by_cases hin : i < s.ws.length
          · exact hin
          · rw [wd_out0 hin, andU_zero0] at hbit; exact absurd rfl hbit
        have e : len ⟨s.ws, false, s.ch⟩ = len s := rfl
        rw [e]
        exact ⟨⟨fun e => by simp at e, h.few, h.inc, h.rng, h.wsl⟩, by omega, by omega, fun e => absurd e ho⟩
      · split
        · rename_i h8
          have hil := ins_length s.ch (lead s.ch i) ((i : Int), orU (wd s.ws i) b) hl1
          have hix := ix_ins s.ch (lead s.ch i) ((i : Int), orU (wd s.ws i) b) hl1
          have hhi : ∀ j, lead s.ch i ≤ j → j < s.ch.length → (i : Int) < ix s.ch j := by
            intro j h1 h2
            have h3 := hl3 (by omega)
            have h4 : (i : Int) ≠ ix s.ch (lead s.ch i) := fun e => hf ⟨by omega, e.symm⟩
            by_cases e : j = lead s.ch i
            · rw [e]; omega
            · have := h.inc (lead s.ch i) j (by omega) h2; omega
          have hinc : Inc (ins s.ch (lead s.ch i) ((i : Int), orU (wd s.ws i) b)) := by
            intro a c h1 h2
            rw [hil] at h2
            rw [hix, hix]
            by_cases a1 : a < lead s.ch i
            · rw [if_pos a1]
              by_cases c1 : c < lead s.ch i
              · rw [if_pos c1]; exact h.inc a c h1 (by omega)
              · rw [if_neg c1]
                have ha := hl2 a a1
                by_cases c2 : c = lead s.ch i
                · rw [if_pos c2]; exact ha
                · rw [if_neg c2]; have := hhi (c - 1) (by omega) (by omega); omega
            · rw [if_neg a1, if_neg (show ¬ c < lead s.ch i by omega), if_neg (show ¬ c = lead s.ch i by omega)]
              by_cases a2 : a = lead s.ch i
              · rw [if_pos a2]; exact hhi (c - 1) (by omega) (by omega)
              · rw [if_neg a2]; exact h.inc (a - 1) (c - 1) (by omega) (by omega)
          have hlast : ix (ins s.ch (lead s.ch i) ((i : Int), orU (wd s.ws i) b)) s.ch.length = if lead s.ch i = s.ch.length then (i : Int) else ix s.ch (s.ch.length - 1) := by
            rw [hix, if_neg (by omega)]
            by_cases e : lead s.ch i = s.ch.length
            · rw [if_pos e.symm, if_pos e]
            · rw [if_neg (fun x => e x.symm), if_neg e]
          have hlen : len ⟨s.ws, false, ins s.ch (lead s.ch i) ((i : Int), orU (wd s.ws i) b)⟩ = max (s.ws.length : Int) ((if lead s.ch i = s.ch.length then (i : Int) else ix s.ch (s.ch.length - 1)) + 1) := by
            rw [len_last _ (by show 0 < (ins _ _ _).length; rw [hil]; omega)]
            show max (s.ws.length : Int) (ix (ins s.ch _ _) ((ins s.ch _ _).length - 1) + 1) = _
            rw [hil, Nat.add_sub_cancel, hlast]
          rw [hlen]
          refine ⟨⟨fun e => by simp at e, by show (ins _ _ _).length ≤ 8; rw [hil]; omega, hinc, fun j hj => ?_, h.wsl⟩, ?_, ?_, fun e => absurd e ho⟩
          · show 0 ≤ ix (ins _ _ _) j ∧ ix (ins _ _ _) j ≤ 65536
            have hj : j < (ins s.ch (lead s.ch i) ((i : Int), orU (wd s.ws i) b)).length := hj
            rw [hil] at hj
            rw [hix]
            by_cases a1 : j < lead s.ch i
            · rw [if_pos a1]; exact h.rng j (by omega)
            · rw [if_neg a1]
              by_cases a2 : j = lead s.ch i
              · rw [if_pos a2]; exact ⟨by omega, by omega⟩
              · rw [if_neg a2]; exact h.rng (j - 1) (by omega)
          · by_cases e : lead s.ch i = s.ch.length
            · rw [if_pos e]; omega
            · rw [if_neg e]; have := hhi (s.ch.length - 1) (by omega) (by omega); omega
          · by_cases e0 : s.ch.length = 0
            · have : s.ch = [] := List.eq_nil_of_length_eq_zero e0
              rw [len_nil s this]; omega
            · rw [len_last s (by omega)]
              by_cases e : lead s.ch i = s.ch.length
              · rw [if_pos e]; have := hl2 (s.ch.length - 1) (by omega); omega
              · rw [if_neg e]; omega
        · have hL : (setW (over (pad s.ws (newLen s.ws s.ch i)) s.ch) i b).length = newLen s.ws s.ch i := by
            rw [setW_length, over_length, pad_length]
            have : (s.ws.length : Int) ≤ runLen s.ws s.ch := hb.1
            unfold newLen; omega
          have hN : (newLen s.ws s.ch i : Int) = max (len s) ((i : Int) + 1) := by
            have : (s.ws.length : Int) ≤ runLen s.ws s.ch := hb.1
            have e : len s = runLen s.ws s.ch := rfl
            unfold newLen; omega
          refine ⟨⟨fun _ => rfl, by show ([] : List (Int × Int)).length ≤ 8; simp, fun a c _ h2 => by simp at h2, fun j hj => by simp at hj, by show (setW _ _ _).length ≤ 65537; rw [hL]; omega⟩, ?_, ?_, fun _ => rfl⟩
          · rw [len_nil _ rfl]; show (i : Int) < ((setW _ _ _).length : Int); rw [hL]; omega
          · rw [len_nil ⟨_, true, []⟩ rfl]; show len s ≤ ((setW _ _ _).length : Int); rw [hL]; omega

end Go.Proofs.Qxb6600021a
