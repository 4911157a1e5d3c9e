/-
  Plain mathematics of the union: no Go in sight.
-/
import Derived.Test.Qxb6600021aBase
namespace Go.Proofs.Qxb6600021a

/-- Go's x | y on uint64. -/
def orU (x y : Int) : Int := bits .or .u64 x y

def uniIn (x : Int × Int) (tl : List (Int × Int)) (nx : List (Int × Int) → List (Int × Int)) : List (Int × Int) → List (Int × Int)
  | [] => x :: tl
  | y :: ys => if x.1 < y.1 then x :: nx (y :: ys) else if y.1 < x.1 then y :: uniIn x tl nx ys else (x.1, orU x.2 y.2) :: nx ys

/-- The union of two sets of words, as the Go text merges them. -/
def uni : List (Int × Int) → List (Int × Int) → List (Int × Int)
  | [] => fun ys => ys
  | x :: xs => uniIn x xs (uni xs)

theorem uni_nil (ys : List (Int × Int)) : uni [] ys = ys := rfl
theorem uni_nil' (xs : List (Int × Int)) : uni xs [] = xs := by cases xs <;> rfl
theorem uni_lt {x y : Int × Int} {xs ys : List (Int × Int)} (h : x.1 < y.1) : uni (x :: xs) (y :: ys) = x :: uni xs (y :: ys) := by
  show uniIn x xs (uni xs) (y :: ys) = _
  rw [uniIn, if_pos h]
theorem uni_gt {x y : Int × Int} {xs ys : List (Int × Int)} (h : y.1 < x.1) : uni (x :: xs) (y :: ys) = y :: uni (x :: xs) ys := by
  show uniIn x xs (uni xs) (y :: ys) = _
  rw [uniIn, if_neg (by omega), if_pos h]
  rfl
theorem uni_eq {x y : Int × Int} {xs ys : List (Int × Int)} (h : x.1 = y.1) : uni (x :: xs) (y :: ys) = (x.1, orU x.2 y.2) :: uni xs ys := by
  show uniIn x xs (uni xs) (y :: ys) = _
  rw [uniIn, if_neg (by omega), if_neg (by omega)]

theorem uni_length (xs : List (Int × Int)) : ∀ ys, (uni xs ys).length ≤ xs.length + ys.length := by
  induction xs with
  | nil => intro ys; simp [uni_nil]
  | cons x xs ih =>
    intro ys
    induction ys with
    | nil => simp [uni_nil']
    | cons y ys ihy =>
      rcases Int.lt_trichotomy x.1 y.1 with h | h | h
      · have := ih (y :: ys); rw [uni_lt h]; simp at this ⊢; omega
      · have := ih ys; rw [uni_eq h]; simp at this ⊢; omega
      · rw [uni_gt h]; simp at ihy ⊢; omega

/-- The pair at i. -/
theorem drop_pair {L : List (Int × Int)} {i : Nat} (h : i < L.length) : L.drop i = (ix L i, bt L i) :: L.drop (i + 1) := by
  rw [List.drop_eq_getElem_cons h]
  have e : L.getD i (0, 0) = L[i] := by simp [List.getD, h]
  unfold ix bt
  rw [e]

theorem step_left {L M d : List (Int × Int)} {i j : Nat} (hi : i < L.length) (hj : j < M.length) (hx : d ++ uni (L.drop i) (M.drop j) = uni L M) (h : ix L i < ix M j) :
    (d ++ [(ix L i, bt L i)]) ++ uni (L.drop (i + 1)) (M.drop j) = uni L M := by
  rw [← hx, drop_pair hi, drop_pair hj, uni_lt (x := (ix L i, bt L i)) (y := (ix M j, bt M j)) h]; simp
theorem step_right {L M d : List (Int × Int)} {i j : Nat} (hi : i < L.length) (hj : j < M.length) (hx : d ++ uni (L.drop i) (M.drop j) = uni L M) (h : ix M j < ix L i) :
    (d ++ [(ix M j, bt M j)]) ++ uni (L.drop i) (M.drop (j + 1)) = uni L M := by
  rw [← hx, drop_pair hi, drop_pair hj, uni_gt (x := (ix L i, bt L i)) (y := (ix M j, bt M j)) h]; simp
theorem step_both {L M d : List (Int × Int)} {i j : Nat} (hi : i < L.length) (hj : j < M.length) (hx : d ++ uni (L.drop i) (M.drop j) = uni L M) (h : ix L i = ix M j) :
    (d ++ [(ix L i, orU (bt L i) (bt M j))]) ++ uni (L.drop (i + 1)) (M.drop (j + 1)) = uni L M := by
  rw [← hx, drop_pair hi, drop_pair hj, uni_eq (x := (ix L i, bt L i)) (y := (ix M j, bt M j)) h]; simp
theorem step_leftover {L M d : List (Int × Int)} {i j : Nat} (hi : i < L.length) (hj : ¬ j < M.length) (hx : d ++ uni (L.drop i) (M.drop j) = uni L M) :
    (d ++ [(ix L i, bt L i)]) ++ uni (L.drop (i + 1)) (M.drop j) = uni L M := by
  have e : M.drop j = [] := List.drop_eq_nil_of_le (by omega)
  rw [← hx, drop_pair hi, e, uni_nil', uni_nil']; simp
theorem step_rightover {L M d : List (Int × Int)} {i j : Nat} (hi : ¬ i < L.length) (hj : j < M.length) (hx : d ++ uni (L.drop i) (M.drop j) = uni L M) :
    (d ++ [(ix M j, bt M j)]) ++ uni (L.drop i) (M.drop (j + 1)) = uni L M := by
  have e : L.drop i = [] := List.drop_eq_nil_of_le (by omega)
  rw [← hx, drop_pair hj, e, uni_nil, uni_nil]; simp
theorem step_done {L M d : List (Int × Int)} {i j : Nat} (hi : ¬ i < L.length) (hj : ¬ j < M.length) (hx : d ++ uni (L.drop i) (M.drop j) = uni L M) : d = uni L M := by
  have e : L.drop i = [] := List.drop_eq_nil_of_le (by omega)
  have e' : M.drop j = [] := List.drop_eq_nil_of_le (by omega)
  rw [← hx, e, e', uni_nil]; simp

theorem cellsL_snoc (d : List (Int × Int)) (x y : Int) : cellsL (d ++ [(x, y)]) = cellsL d ++ [.int .i64 x, .int .u64 y] := by rw [cellsL_append]; rfl

/-! ### The law of commuting and absorbing -/
theorem orU_comm (x y : Int) : orU x y = orU y x := by
  unfold orU bits
  simp only [BitVec.or_comm]

def Wf (L : List (Int × Int)) : Prop := ∀ p ∈ L, -9223372036854775808 ≤ p.1 ∧ p.1 ≤ 9223372036854775807 ∧ 0 ≤ p.2 ∧ p.2 < 18446744073709551616

theorem orU_nat (x y : Int) (h1 : 0 ≤ x) (h2 : x < 18446744073709551616) (h3 : 0 ≤ y) (h4 : y < 18446744073709551616) : orU x y = ((x.toNat ||| y.toNat : Nat) : Int) := u64_or x y h1 h2 h3 h4

theorem orU_self (x : Int) (h1 : 0 ≤ x) (h2 : x < 18446744073709551616) : orU x x = x := by
  rw [orU_nat x x h1 h2 h1 h2, Nat.or_self]; omega

theorem uni_comm (xs : List (Int × Int)) : ∀ ys, uni xs ys = uni ys xs := by
  induction xs with
  | nil => intro ys; rw [uni_nil, uni_nil']
  | cons x xs ih =>
    intro ys
    induction ys with
    | nil => rw [uni_nil, uni_nil']
    | cons y ys ihy =>
      rcases Int.lt_trichotomy x.1 y.1 with h | h | h
      · rw [uni_lt h, uni_gt h, ih]
      · rw [uni_eq h, uni_eq h.symm, ih, orU_comm, h]
      · rw [uni_gt h, uni_lt h, ihy]

theorem uni_self (xs : List (Int × Int)) (h : Wf xs) : uni xs xs = xs := by
  induction xs with
  | nil => rfl
  | cons x xs ih =>
    have hx := h x (by simp)
    rw [uni_eq rfl, ih (fun p hp => h p (by simp [hp])), orU_self _ hx.2.2.1 hx.2.2.2]

end Go.Proofs.Qxb6600021a
