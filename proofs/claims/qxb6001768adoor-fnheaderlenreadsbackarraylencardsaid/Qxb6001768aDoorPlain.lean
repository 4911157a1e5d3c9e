/-
  The plain laws: what headerLen answers (over strconv.Atoi's answer) is what the law's own model answers; the text of a number reads back as that number.
-/
import Derived.Lib.AtoiAll
import Derived.Lib.ItoaNum
namespace Go.Proofs.Qxb6001768aDoor
open Go.Lib
set_option linter.unusedVariables false

/-- What headerLen answers, over Atoi's answer. -/
def hdr (l : List UInt8) (limit : Int) : Option Int := match atoiAll l with
  | .ok v => if v < -1 ∨ limit < v then none else some v
  | _ => none

/-- The model's loop: the magnitude so far, and whether it is beyond 1 << 21; none: a byte that is no digit. -/
def mrun (m : Nat) (b : Bool) : List UInt8 → Option (Nat × Bool)
  | [] => some (m, b)
  | c :: r => if 48 ≤ c.toNat ∧ c.toNat ≤ 57 then (if b then mrun m true r else mrun (m * 10 + (c.toNat - 48)) (decide (2097152 < m * 10 + (c.toNat - 48))) r) else none

/-- The byte ahead is a sign. -/
def sgn (l : List UInt8) : Bool := match l with
  | [] => false
  | c :: _ => decide (c.toNat = 43 ∨ c.toNat = 45)
def neg (l : List UInt8) : Bool := match l with
  | [] => false
  | c :: _ => decide (c.toNat = 45)

def fin (ng : Bool) (limit : Int) (m : Nat) : Option Int :=
  if (if ng then -(m : Int) else m) < -1 ∨ limit < (if ng then -(m : Int) else m) then none else some (if ng then -(m : Int) else m)

/-- What zzModelHeader answers. -/
def mdl (l : List UInt8) (limit : Int) : Option Int :=
  if (if sgn l then l.drop 1 else l) = [] then none else
    match mrun 0 false (if sgn l then l.drop 1 else l) with
    | none => none
    | some (_, true) => none
    | some (m, false) => fin (neg l) limit m

theorem mrun_big (m : Nat) : ∀ r : List UInt8, (mrun m true r = some (m, true)) ∨ (mrun m true r = none ∧ ∀ acc u, parseUint10 acc r ≠ .ok u)
  | [] => .inl rfl
  | c :: r => by
    rw [mrun]
    by_cases h : 48 ≤ c.toNat ∧ c.toNat ≤ 57
    · rw [if_pos h, if_pos rfl]
      rcases mrun_big m r with h1 | ⟨h1, h2⟩
      · exact .inl h1
      · refine .inr ⟨h1, fun acc u => ?_⟩
        rw [parseUint10, if_pos h]
        split
        · intro e; cases e
        · split
          · intro e; cases e
          · exact h2 _ _
    · rw [if_neg h]
      refine .inr ⟨rfl, fun acc u => ?_⟩
      rw [parseUint10, if_neg h]
      intro e; cases e

theorem parse_ge : ∀ (r : List UInt8) (acc u : Nat), parseUint10 acc r = .ok u → acc ≤ u
  | [], acc, u, h => by rw [parseUint10] at h; injection h with h; omega
  | c :: r, acc, u, h => by
    rw [parseUint10] at h
    split at h
    · split at h
      · cases h
      · split at h
        · cases h
        · have := parse_ge r _ u h; omega
    · cases h

theorem mrun_parse : ∀ (r : List UInt8) (m : Nat), m ≤ 2097152 → match mrun m false r with
    | none => ∀ u, parseUint10 m r ≠ .ok u
    | some (x, false) => parseUint10 m r = .ok x
    | some (_, true) => ∀ u, parseUint10 m r = .ok u → 2097152 < u
  | [], m, hm => by rw [mrun, parseUint10]
  | c :: r, m, hm => by
    rw [mrun, parseUint10]
    by_cases h : 48 ≤ c.toNat ∧ c.toNat ≤ 57
    · rw [if_pos h, if_pos h, if_neg Bool.false_ne_true, if_neg (by omega : ¬ 1844674407370955162 ≤ m), if_neg (by omega : ¬ 18446744073709551616 ≤ m * 10 + (c.toNat - 48))]
      by_cases hb : 2097152 < m * 10 + (c.toNat - 48)
      · rw [decide_eq_true hb]
        rcases mrun_big (m * 10 + (c.toNat - 48)) r with h1 | ⟨h1, h2⟩
        · rw [h1]
          intro u hu
          have := parse_ge r _ u hu
          omega
        · rw [h1]
          exact fun u => h2 _ u
      · rw [decide_eq_false hb]
        exact mrun_parse r _ (by omega)
    · rw [if_neg h, if_neg h]
      intro u e; cases e

theorem hdr_mdl (l : List UInt8) (limit : Int) (h1 : limit ≤ 1048576) : hdr l limit = mdl l limit := by
  cases l with
  | nil => rfl
  | cons c r =>
    unfold hdr mdl atoiAll
    simp only [sgn, neg, List.drop_succ_cons, List.drop_zero, decide_eq_true_eq]
    generalize (if c.toNat = 43 ∨ c.toNat = 45 then r else c :: r) = t
    unfold parseMag
    by_cases ht : t = []
    · simp [ht]
    · rw [if_neg ht, if_neg ht]
      have hm := mrun_parse t 0 (by omega)
      generalize mrun 0 false t = o at hm ⊢
      match o, hm with
      | none, hm =>
        cases hp : parseUint10 0 t
        · exact absurd hp (hm _)
        · rfl
        · rfl
      | some (x, false), hm =>
        simp only at hm
        rw [hm]
        simp only
        unfold fin
        by_cases hn : c.toNat = 45
        · simp only [hn, not_true_eq_false, false_and, if_false, true_and, decide_true, if_true]
          by_cases hx : 9223372036854775808 < x
          · rw [if_pos hx]
            simp only
            rw [if_pos (by omega)]
          · rw [if_neg hx]
        · simp only [hn, not_false_eq_true, true_and, if_false, false_and, decide_false, Bool.false_eq_true]
          by_cases hx : 9223372036854775808 ≤ x
          · rw [if_pos hx]
            simp only
            rw [if_pos (by omega)]
          · rw [if_neg hx]
      | some (x, true), hm =>
        simp only at hm
        cases hp : parseUint10 0 t
        · rename_i u
          have hu := hm u hp
          simp only
          by_cases hn : c.toNat = 45
          · simp only [hn, not_true_eq_false, false_and, if_false, true_and, if_true]
            by_cases hx : 9223372036854775808 < u
            · rw [if_pos hx]
            · rw [if_neg hx]
              simp only
              rw [if_pos (by omega)]
          · simp only [hn, not_false_eq_true, true_and, if_false, false_and]
            by_cases hx : 9223372036854775808 ≤ u
            · rw [if_pos hx]
            · rw [if_neg hx]
              simp only
              rw [if_pos (by omega)]
        · rfl
        · rfl

/-- How Atoi ends: a number, as at the empty text, or out of range. -/
theorem atoi_cases (l : List UInt8) : (∃ v, atoiAll l = .ok v) ∨ atoiAll l = atoiAll [] ∨ atoiAll l = .range := by
  cases h : atoiAll l
  · exact .inl ⟨_, rfl⟩
  · exact .inr (.inl rfl)
  · exact .inr (.inr rfl)

/-! ### the text of a number -/
theorem parse_append : ∀ (a : List UInt8) (acc x : Nat) (b : List UInt8), parseUint10 acc a = .ok x → parseUint10 acc (a ++ b) = parseUint10 x b
  | [], acc, x, b, h => by rw [parseUint10] at h; injection h with h; subst h; rfl
  | c :: a, acc, x, b, h => by
    rw [parseUint10] at h
    rw [List.cons_append, parseUint10]
    split at h
    · rename_i h0
      rw [if_pos h0]
      split at h
      · cases h
      · rename_i h1
        rw [if_neg h1]
        split at h
        · cases h
        · rename_i h2
          rw [if_neg h2]
          exact parse_append a _ x b h
    · cases h

theorem dig (u : Nat) (h : u < 10) : (UInt8.ofNat (48 + u)).toNat = 48 + u := by
  show (48 + u) % 256 = 48 + u
  omega

theorem parse_one (acc u : Nat) (h : u < 10) (ha : acc * 10 + u < 18446744073709551616) (hb : acc < 1844674407370955162) : parseUint10 acc [UInt8.ofNat (48 + u)] = .ok (acc * 10 + u) := by
  rw [parseUint10, dig u h, if_pos (by omega), if_neg (by omega), if_neg (by omega), parseUint10, show 48 + u - 48 = u by omega]

theorem parse_digits (u : Nat) : u < 1844674407370955162 → parseUint10 0 (decDigits u) = .ok u := by
  induction u using Nat.strongRecOn with
  | ind u ih =>
    intro hu
    rw [decDigits]
    by_cases h : u < 10
    · rw [dif_pos h, parse_one 0 u h (by omega) (by omega)]
      simp
    · rw [dif_neg h, parse_append _ 0 (u / 10) _ (ih (u / 10) (by omega) (by omega)), parse_one (u / 10) (u % 10) (by omega) (by omega) (by omega)]
      congr 1
      omega

theorem digits_head (u : Nat) : ∃ c r, decDigits u = c :: r ∧ 48 ≤ c.toNat ∧ c.toNat ≤ 57 := by
  induction u using Nat.strongRecOn with
  | ind u ih =>
    rw [decDigits]
    by_cases h : u < 10
    · rw [dif_pos h]
      exact ⟨_, _, rfl, by rw [dig u h]; omega, by rw [dig u h]; omega⟩
    · rw [dif_neg h]
      obtain ⟨c, r, e, h1, h2⟩ := ih (u / 10) (by omega)
      exact ⟨c, r ++ [UInt8.ofNat (48 + u % 10)], by rw [e]; rfl, h1, h2⟩

theorem atoi_itoa (n : Int) (h0 : -1 ≤ n) (h1 : n ≤ 1073741824) : atoiAll (itoa n) = .ok n := by
  unfold itoa
  by_cases hn : n < 0
  · have : n = -1 := by omega
    subst this
    rw [if_pos (by omega)]
    have hd : decDigits (-1 : Int).natAbs = [49] := by
      rw [show (-1 : Int).natAbs = 1 from rfl, decDigits, dif_pos (by omega)]
      rfl
    rw [hd]
    rfl
  · rw [if_neg hn]
    obtain ⟨c, r, e, d1, d2⟩ := digits_head n.toNat
    have hp := parse_digits n.toNat (by omega)
    rw [e] at hp ⊢
    unfold atoiAll
    simp only
    rw [if_neg (by omega)]
    unfold parseMag
    rw [if_neg (by simp), hp]
    simp only
    rw [if_neg (by omega), if_neg (by omega), if_neg (by omega)]
    congr 1
    omega

theorem itoa_pos (n : Int) : 0 < (itoa n).length := by
  unfold itoa
  by_cases hn : n < 0
  · rw [if_pos hn]; simp
  · rw [if_neg hn]
    obtain ⟨c, r, e, _⟩ := digits_head n.toNat
    rw [e]; simp

end Go.Proofs.Qxb6001768aDoor
