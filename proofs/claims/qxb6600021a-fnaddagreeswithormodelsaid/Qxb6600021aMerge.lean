/-
  Plain mathematics: the union of two strictly sorted sets is their merge.
-/
import Derived.Test.Qxb6600021aPlain
import Derived.Test.Qxb6600021aU1
namespace Go.Proofs.Qxb6600021a

/-- What the set holds at index x: its bits and true; or 0 and false. -/
def fnd : List (Int × Int) → Int → Int × Bool
  | [], _ => (0, false)
  | p :: L, x => if p.1 = x then (p.2, true) else fnd L x

/-- The indexes increase strictly (list form). -/
def Srt : List (Int × Int) → Prop
  | [] => True
  | p :: L => (∀ q ∈ L, p.1 < q.1) ∧ Srt L

/-- .. by index. -/
def Inc (L : List (Int × Int)) : Prop := ∀ i j, i < j → j < L.length → ix L i < ix L j

theorem ix_zero (p : Int × Int) (L : List (Int × Int)) : ix (p :: L) 0 = p.1 := rfl
theorem ix_succ (p : Int × Int) (L : List (Int × Int)) (i : Nat) : ix (p :: L) (i + 1) = ix L i := rfl
theorem bt_zero (p : Int × Int) (L : List (Int × Int)) : bt (p :: L) 0 = p.2 := rfl
theorem bt_succ (p : Int × Int) (L : List (Int × Int)) (i : Nat) : bt (p :: L) (i + 1) = bt L i := rfl

theorem ix_mem {L : List (Int × Int)} : ∀ {i : Nat}, i < L.length → (ix L i, bt L i) ∈ L := by
  induction L with
  | nil => intro i h; simp at h
  | cons p L ih =>
    intro i h
    cases i with
    | zero => simp [ix_zero, bt_zero]
    | succ i => rw [ix_succ, bt_succ]; exact List.mem_cons_of_mem _ (ih (by simpa using h))

theorem mem_ix {L : List (Int × Int)} {p : Int × Int} (h : p ∈ L) : ∃ i, i < L.length ∧ ix L i = p.1 ∧ bt L i = p.2 := by
  induction L with
  | nil => cases h
  | cons q L ih =>
    rcases List.mem_cons.1 h with rfl | h
    · exact ⟨0, by simp, rfl, rfl⟩
    · obtain ⟨i, hi, h1, h2⟩ := ih h
      exact ⟨i + 1, by simpa using hi, h1, h2⟩

theorem inc_of_incB {L : List (Int × Int)} (h : incB L = true) : Inc L := by
  have h := of_decide_eq_true h
  intro i j hij hj
  induction j with
  | zero => omega
  | succ j ih =>
    have hs := h (j + 1) hj (by omega)
    rw [Nat.add_sub_cancel] at hs
    by_cases e : i = j
    · rw [e]; exact hs
    · have := ih (by omega) (by omega); omega

theorem srt_of_inc {L : List (Int × Int)} (h : Inc L) : Srt L := by
  induction L with
  | nil => trivial
  | cons p L ih =>
    refine ⟨fun q hq => ?_, ih (fun i j h1 h2 => by have := h (i + 1) (j + 1) (by omega) (by simpa using h2); simpa [ix_succ] using this)⟩
    obtain ⟨i, hi, h1, _⟩ := mem_ix hq
    have := h 0 (i + 1) (by omega) (by simpa using hi)
    rw [ix_zero, ix_succ] at this
    omega

theorem inc_of_srt {L : List (Int × Int)} (h : Srt L) : Inc L := by
  induction L with
  | nil => intro i j _ h2; simp at h2
  | cons p L ih =>
    intro i j h1 h2
    cases j with
    | zero => omega
    | succ j =>
      rw [ix_succ]
      cases i with
      | zero => rw [ix_zero]; exact h.1 _ (ix_mem (by simpa using h2))
      | succ i => rw [ix_succ]; exact ih h.2 i j (by omega) (by simpa using h2)

theorem uni_ge (xs : List (Int × Int)) : ∀ ys, xs.length ≤ (uni xs ys).length := by
  induction xs with
  | nil => intro ys; simp
  | cons x xs ih =>
    intro ys
    induction ys with
    | nil => simp [uni_nil']
    | cons y ys ihy =>
      rcases Int.lt_trichotomy x.1 y.1 with h | h | h
      · have := ih (y :: ys); rw [uni_lt h]; simp at this ⊢; omega
      · have := ih ys; rw [uni_eq h]; simp at this ⊢; omega
      · rw [uni_gt h]; simp at ihy ⊢; omega

/-- Every index of the union is one of the two sets'. -/
theorem uni_from (z : Int) (xs : List (Int × Int)) : ∀ ys, (∀ p ∈ xs, z < p.1) → (∀ p ∈ ys, z < p.1) → ∀ p ∈ uni xs ys, z < p.1 := by
  induction xs with
  | nil => intro ys _ h; exact h
  | cons x xs ih =>
    intro ys
    induction ys with
    | nil => intro h _; rw [uni_nil']; exact h
    | cons y ys ihy =>
      intro h1 h2
      have hx := h1 x (by simp)
      have hy := h2 y (by simp)
      have h1' : ∀ p ∈ xs, z < p.1 := fun p hp => h1 p (by simp [hp])
      have h2' : ∀ p ∈ ys, z < p.1 := fun p hp => h2 p (by simp [hp])
      intro p hp
      rcases Int.lt_trichotomy x.1 y.1 with h | h | h
      · rw [uni_lt h] at hp
        rcases List.mem_cons.1 hp with rfl | hp
        · exact hx
        · exact ih (y :: ys) h1' h2 p hp
      · rw [uni_eq h] at hp
        rcases List.mem_cons.1 hp with rfl | hp
        · exact hx
        · exact ih ys h1' h2' p hp
      · rw [uni_gt h] at hp
        rcases List.mem_cons.1 hp with rfl | hp
        · exact hy
        · exact ihy h1 h2' p hp

theorem uni_srt (xs : List (Int × Int)) : ∀ ys, Srt xs → Srt ys → Srt (uni xs ys) := by
  induction xs with
  | nil => intro ys _ h; exact h
  | cons x xs ih =>
    intro ys
    induction ys with
    | nil => intro h _; rw [uni_nil']; exact h
    | cons y ys ihy =>
      intro h1 h2
      rcases Int.lt_trichotomy x.1 y.1 with h | h | h
      · rw [uni_lt h]
        exact ⟨uni_from _ _ _ h1.1 (fun p hp => by rcases List.mem_cons.1 hp with rfl | hp; exact h; have := h2.1 p hp; omega), ih _ h1.2 h2⟩
      · rw [uni_eq h]
        exact ⟨uni_from _ _ _ h1.1 (fun p hp => by have := h2.1 p hp; show x.1 < p.1; omega), ih _ h1.2 h2.2⟩
      · rw [uni_gt h]
        exact ⟨uni_from _ _ _ (fun p hp => by rcases List.mem_cons.1 hp with rfl | hp; exact h; have := h1.1 p hp; omega) h2.1, ihy h1 h2.2⟩

theorem fnd_low {L : List (Int × Int)} {z : Int} (h : ∀ p ∈ L, z < p.1) : fnd L z = (0, false) := by
  induction L with
  | nil => rfl
  | cons p L ih =>
    have := h p (by simp)
    rw [fnd, if_neg (by omega)]
    exact ih (fun q hq => h q (by simp [hq]))

theorem orU_zero (x : Int) (h1 : 0 ≤ x) (h2 : x < 18446744073709551616) : orU x 0 = x := by
  rw [orU_nat x 0 h1 h2 (by omega) (by omega)]; simp; omega
theorem zero_orU (x : Int) (h1 : 0 ≤ x) (h2 : x < 18446744073709551616) : orU 0 x = x := by rw [orU_comm]; exact orU_zero x h1 h2

theorem fnd_uni (z : Int) (xs : List (Int × Int)) : ∀ ys, Srt xs → Srt ys → Wf xs → Wf ys →
    fnd (uni xs ys) z = (orU (fnd xs z).1 (fnd ys z).1, (fnd xs z).2 || (fnd ys z).2) := by
  have wfnd : ∀ (L : List (Int × Int)), Wf L → 0 ≤ (fnd L z).1 ∧ (fnd L z).1 < 18446744073709551616 := by
    intro L
    induction L with
    | nil => intro _; simp [fnd]
    | cons p L ih =>
      intro h
      rw [fnd]
      split
      · exact (h p (by simp)).2.2
      · exact ih (fun q hq => h q (by simp [hq]))
  induction xs with
  | nil =>
    intro ys _ _ _ wy
    have := wfnd ys wy
    rw [uni_nil, fnd, zero_orU _ this.1 this.2]
    simp
  | cons x xs ih =>
    intro ys
    induction ys with
    | nil =>
      intro _ _ wx _
      have := wfnd _ wx
      rw [uni_nil']
      show _ = (orU (fnd (x :: xs) z).1 0, _)
      rw [orU_zero _ this.1 this.2]
      simp [fnd]
    | cons y ys ihy =>
      intro h1 h2 wx wy
      have wx' : Wf xs := fun q hq => wx q (by simp [hq])
      have wy' : Wf ys := fun q hq => wy q (by simp [hq])
      have bx := (wx x (by simp)).2.2
      have by' := (wy y (by simp)).2.2
      rcases Int.lt_trichotomy x.1 y.1 with h | h | h
      · rw [uni_lt h]
        by_cases e : x.1 = z
        · have hlow : fnd (y :: ys) z = (0, false) := fnd_low (fun p hp => by rcases List.mem_cons.1 hp with rfl | hp; omega; have := h2.1 p hp; omega)
          rw [hlow, fnd, if_pos e, fnd, if_pos e, orU_zero _ bx.1 bx.2]; rfl
        · rw [fnd, if_neg e, ih _ h1.2 h2 wx' wy]
          have e2 : fnd (x :: xs) z = fnd xs z := by rw [fnd, if_neg e]
          rw [e2]
      · rw [uni_eq h]
        by_cases e : x.1 = z
        · have e1 : fnd (x :: xs) z = (x.2, true) := by rw [fnd, if_pos e]
          have e2 : fnd (y :: ys) z = (y.2, true) := by rw [fnd, if_pos (by omega)]
          rw [e1, e2, fnd, if_pos e]; rfl
        · have e1 : fnd (x :: xs) z = fnd xs z := by rw [fnd, if_neg e]
          have e2 : fnd (y :: ys) z = fnd ys z := by rw [fnd, if_neg (by omega)]
          rw [e1, e2, fnd, if_neg e]
          exact ih _ h1.2 h2.2 wx' wy'
      · rw [uni_gt h]
        by_cases e : y.1 = z
        · have hlow : fnd (x :: xs) z = (0, false) := fnd_low (fun p hp => by rcases List.mem_cons.1 hp with rfl | hp; omega; have := h1.1 p hp; omega)
          rw [hlow, fnd, if_pos e, fnd, if_pos e, zero_orU _ by'.1 by'.2]; rfl
        · have e2 : fnd (y :: ys) z = fnd ys z := by rw [fnd, if_neg e]
          rw [fnd, if_neg e, ihy h1 h2.2 wx wy', e2]

theorem fnd_none {L : List (Int × Int)} {z : Int} (h : ∀ i, i < L.length → ix L i ≠ z) : fnd L z = (0, false) := by
  induction L with
  | nil => rfl
  | cons p L ih =>
    rw [fnd, if_neg (show ¬ p.1 = z from h 0 (by simp))]
    exact ih (fun i hi => h (i + 1) (by simpa using hi))

theorem fnd_at {L : List (Int × Int)} {z : Int} (h : Inc L) {i : Nat} (hi : i < L.length) (e : ix L i = z) : fnd L z = (bt L i, true) := by
  induction L generalizing i with
  | nil => simp at hi
  | cons p L ih =>
    cases i with
    | zero => rw [fnd, if_pos (show p.1 = z from e), bt_zero]
    | succ i =>
      have := h 0 (i + 1) (by omega) hi
      rw [ix_zero] at this
      rw [fnd, if_neg (by omega), bt_succ]
      exact ih (fun a b h1 h2 => by have := h (a + 1) (b + 1) (by omega) (by simpa using h2); simpa [ix_succ] using this) (by simpa using hi) e

/-! ### What the law asks -/
theorem law3_bits {L M : List (Int × Int)} (h1 : Inc L) (h2 : Inc M) (w1 : Wf L) (w2 : Wf M) {k : Nat} (hk : k < (uni L M).length) :
    ((fnd L (ix (uni L M) k)).2 || (fnd M (ix (uni L M) k)).2) = true ∧ bt (uni L M) k = orU (fnd L (ix (uni L M) k)).1 (fnd M (ix (uni L M) k)).1 := by
  have hu := fnd_uni (ix (uni L M) k) L M (srt_of_inc h1) (srt_of_inc h2) w1 w2
  have ha := fnd_at (inc_of_srt (uni_srt L M (srt_of_inc h1) (srt_of_inc h2))) hk rfl
  rw [ha] at hu
  simp only [Prod.mk.injEq] at hu
  exact ⟨hu.2.symm, hu.1⟩

theorem law3_left {L M : List (Int × Int)} (h1 : Inc L) (h2 : Inc M) (w1 : Wf L) (w2 : Wf M) {k : Nat} (hk : k < L.length) : (fnd (uni L M) (ix L k)).2 = true := by
  rw [fnd_uni (ix L k) L M (srt_of_inc h1) (srt_of_inc h2) w1 w2, fnd_at h1 hk rfl]; rfl
theorem law3_right {L M : List (Int × Int)} (h1 : Inc L) (h2 : Inc M) (w1 : Wf L) (w2 : Wf M) {k : Nat} (hk : k < M.length) : (fnd (uni L M) (ix M k)).2 = true := by
  rw [fnd_uni (ix M k) L M (srt_of_inc h1) (srt_of_inc h2) w1 w2, fnd_at h2 hk rfl]; simp

end Go.Proofs.Qxb6600021a
