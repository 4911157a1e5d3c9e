/-
  The plain side of path (57): the scan of the ends, the rank of a cell on its chain; the links.
-/
import Derived.Test.Qxb6600021aF4
namespace Go.Proofs.Qxb6600021a
open Go.RowKit
set_option linter.unusedVariables false

/-! ### the scan -/
def stp (L : List Edge) (s : Option Cel) (c : Cel) : Option Cel := match s with
  | some x => some x
  | none => if has L c then some c else none
def stp2 (L : List Edge) (F : Int) (s : Option Cel) (e : Int) : Option Cel := stp L (stp L s ⟨F, e, false⟩) ⟨F, e, true⟩
/-- The answer after the first k ends. -/
def scan (L : List Edge) (F : Int) (es : List Int) : Nat → Option Cel
  | 0 => none
  | k + 1 => stp2 L F (scan L F es k) (wd es k)

def ends (T1 : Int) (n : Nat) : List Int := T1 :: (List.range n).map (fun i : Nat => (i : Int))
theorem ends_length (T1 : Int) (n : Nat) : (ends T1 n).length = n + 1 := by simp [ends]
theorem ends_succ (T1 : Int) (n : Nat) : ends T1 (n + 1) = ends T1 n ++ [(n : Int)] := by simp [ends, List.range_succ]
theorem ends_at (T1 : Int) (n k : Nat) (h : k < n) : wd (ends T1 n) (k + 1) = (k : Int) := by
  simp [wd, ends, List.getD, h]

theorem stp2_none (L : List Edge) (F e : Int) : stp2 L F none e = if has L ⟨F, e, false⟩ then some ⟨F, e, false⟩ else if has L ⟨F, e, true⟩ then some ⟨F, e, true⟩ else none := by
  unfold stp2
  by_cases h1 : has L ⟨F, e, false⟩ = true
  · simp [stp, h1]
  · by_cases h2 : has L ⟨F, e, true⟩ = true
    · simp [stp, h1, h2]
    · simp [stp, h1, h2]
theorem stp2_some (L : List Edge) (F e : Int) (c : Cel) : stp2 L F (some c) e = some c := rfl

theorem scan_seek (L : List Edge) (F T1 : Int) (n : Nat) : ∀ k, k ≤ n → scan L F (ends T1 n) (k + 1) = match stp2 L F none T1 with | some c => some c | none => seek L F k := by
  intro k
  induction k with
  | zero =>
    intro _
    rw [scan, scan]
    have : wd (ends T1 n) 0 = T1 := rfl
    rw [this]
    cases stp2 L F none T1 <;> rfl
  | succ k ih =>
    intro hk
    rw [scan, ih (by omega), ends_at T1 n k (by omega)]
    cases stp2 L F none T1 with
    | some c => rfl
    | none =>
      show stp2 L F (seek L F k) k = seek L F (k + 1)
      rw [seek]
      cases seek L F k with
      | some c => rfl
      | none => exact stp2_none L F k

theorem scan_end (L : List Edge) (F T1 tt : Int) (pre : Bool) : scan L F (ends T1 (if pre = true then tt.toNat else 0)) ((ends T1 (if pre = true then tt.toNat else 0)).length) = pEnd L F T1 tt pre := by
  rw [ends_length, scan_seek L F T1 _ _ (Nat.le_refl _), stp2_none, pEnd]
  by_cases h1 : has L ⟨F, T1, false⟩ = true
  · simp [h1]
  · by_cases h2 : has L ⟨F, T1, true⟩ = true
    · simp [h1, h2]
    · cases pre
      · simp [h1, h2, seek]
      · simp [h1, h2]

/-! ### the chain -/
/-- One more than the index of the last edge with key c among the first k; 0 where none is. -/
def rankTo (L : List Edge) : Nat → Cel → Nat
  | 0, _ => 0
  | k + 1, c => if ke L k = c then k + 1 else rankTo L k c
theorem rankTo_le (L : List Edge) (c : Cel) : ∀ k, rankTo L k c ≤ k := by
  intro k
  induction k with
  | zero => exact Nat.le_refl _
  | succ k ih => rw [rankTo]; split <;> omega

theorem backTo_rank (L : List Edge) (c : Cel) : ∀ k, (rankTo L k c = 0 ∧ backTo L k c = none) ∨ ∃ i, i < k ∧ rankTo L k c = i + 1 ∧ backTo L k c = some (bk L i) ∧ ke L i = c := by
  intro k
  induction k with
  | zero => left; exact ⟨rfl, rfl⟩
  | succ k ih =>
    rw [rankTo, backTo]
    by_cases e : ke L k = c
    · rw [if_pos e, if_pos e]; right; exact ⟨k, by omega, rfl, rfl, e⟩
    · rw [if_neg e, if_neg e]
      rcases ih with ih | ⟨i, hi, r⟩
      · left; exact ih
      · right; exact ⟨i, by omega, r⟩

theorem rankTo_none (L : List Edge) (c : Cel) (i : Nat) : ∀ k, (∀ j, i ≤ j → j < k → ke L j ≠ c) → rankTo L k c ≤ i := by
  intro k
  induction k with
  | zero => intro _; exact Nat.zero_le _
  | succ k ih =>
    intro h
    rw [rankTo]
    by_cases e : ke L k = c
    · rw [if_pos e]
      by_cases hik : i ≤ k
      · exact absurd e (h k hik (by omega))
      · omega
    · rw [if_neg e]; exact ih fun j h1 h2 => h j h1 (by omega)

/-- How many rounds the walk back from c has left, at most. -/
def mu (L : List Edge) (c : Cel) : Nat := if c = c0 then 0 else rankTo L L.length c + 1
def nxt (L : List Edge) (c : Cel) : Cel := (back L c).getD c0

theorem mu_le (L : List Edge) (c : Cel) : mu L c ≤ L.length + 1 := by
  unfold mu; split
  · omega
  · have := rankTo_le L c L.length; omega
theorem mu_pos {L : List Edge} {c : Cel} (h : ¬ c = c0) : 0 < mu L c := by unfold mu; rw [if_neg h]; omega

theorem mu_next {L : List Edge} (hc : Chains L) {c : Cel} (h : ¬ c = c0) : mu L (nxt L c) < mu L c := by
  have e1 : mu L c = rankTo L L.length c + 1 := by unfold mu; rw [if_neg h]
  rcases backTo_rank L c L.length with ⟨hr, hb⟩ | ⟨i, hi, hr, hb, hk⟩
  · have : nxt L c = c0 := by unfold nxt back; rw [hb]; rfl
    rw [this, e1]; unfold mu; rw [if_pos rfl]; omega
  · have hn : nxt L c = bk L i := by unfold nxt back; rw [hb]; rfl
    rw [hn, e1, hr]
    unfold mu
    split
    · omega
    · rename_i hz
      have := rankTo_none L (bk L i) i L.length fun j h1 h2 => hc i j h1 h2 hz
      omega

def OkL (L : List Edge) : Prop := ∀ i, (ke L i).ok ∧ (bk L i).ok
theorem ok0 : c0.ok := ⟨rfl, rfl⟩
theorem nxt_ok {L : List Edge} (h : OkL L) (c : Cel) : (nxt L c).ok := by
  unfold nxt back
  rcases backTo_rank L c L.length with ⟨_, hb⟩ | ⟨i, _, _, hb, _⟩
  · rw [hb]; exact ok0
  · rw [hb]; exact (h i).2

/-! ### links -/
abbrev Link := Cel × Value
def lc (x : Link) : List Value := [.int .i64 x.1.f, .int .i64 x.1.t, .bool x.1.m, x.2]
theorem lc_length (x : Link) : (lc x).length = 4 := rfl
abbrev d0 : Link := (c0, undef)

/-- A value of the changes map: nil, or one change whose tag can be read. -/
def ChOk (w : World) (v : Value) : Prop := v = .slice none 0 0 ∨ ∃ b x, v = .slice (some ⟨b, 0, none⟩) 1 1 ∧ b < w.heap.size ∧ w.cell? ⟨b, 1, none⟩ = some (.int .i64 x)
theorem ChOk.below {w w' : World} {B : Nat} {v : Value} (h : ChOk w v) (hb : Below B w w') (hB : w.heap.size ≤ B) : ChOk w' v := by
  rcases h with h | ⟨b, x, h1, h2, h3⟩
  · exact .inl h
  · exact .inr ⟨b, x, h1, Nat.lt_of_lt_of_le h2 hb.size, (hb.cell (p := ⟨b, 1, none⟩) (Nat.lt_of_lt_of_le h2 hB)).trans h3⟩
theorem ChOk.one {w : World} {v : Value} (h : ChOk w v) : v.oneCell' = true := by
  rcases h with rfl | ⟨b, x, rfl, _⟩ <;> rfl

def BF (L : List Edge) (c : Cel) : Option Value := (back L c).map cv
theorem BF_get (L : List Edge) (c : Cel) : (BF L c).getD (cv c0) = cv (nxt L c) := by
  unfold BF nxt; cases back L c <;> rfl
theorem BF_some (L : List Edge) (c : Cel) : (BF L c).isSome = has L c := by
  unfold BF has; cases back L c <;> rfl

end Go.Proofs.Qxb6600021a
