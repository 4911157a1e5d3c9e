/-
  Words shared by all walks of this seat: what a slice value reads as ('Rd'), carried over worlds by 'Below'.
-/
import Derived.Test.Qxb6600021aProg
import Derived.WalkKit
import Derived.WalkSpells
import Derived.WalkLawsBesides
import Derived.BigQuiet
import Derived.Deep.QuietTactic
import Derived.Deep.RegionLaw
namespace Go.Proofs.Qxb6600021a
open Go.RowKit

/-- The slice value v has n elements of sz cells each; they read as the list cs in w. -/
def Rd (w : World) (v : Value) (n sz : Nat) (cs : List Value) : Prop :=
  ∃ a cap, v = .slice a n cap ∧ n ≤ cap ∧ cap ≤ maxLen ∧ (a = none → cap = 0) ∧ cs.length = n * sz ∧
    (0 < n → ∃ b off, a = some ⟨b, off, none⟩ ∧ b < w.heap.size ∧ ∀ j, j < n * sz → w.cell? ⟨b, off + j, none⟩ = cs[j]?)

theorem Rd.below {w w' : World} {v : Value} {n sz : Nat} {cs : List Value} (h : Rd w v n sz cs) (hb : Below w.heap.size w w') : Rd w' v n sz cs := by
  obtain ⟨a, cap, rfl, h1, h2, h3, h4, h5⟩ := h
  refine ⟨a, cap, rfl, h1, h2, h3, h4, fun hn => ?_⟩
  obtain ⟨b, off, rfl, hlt, hc⟩ := h5 hn
  refine ⟨b, off, rfl, Nat.lt_of_lt_of_le hlt hb.size, fun j hj => ?_⟩
  rw [hb.cell (p := ⟨b, off + j, none⟩) hlt]
  exact hc j hj

theorem Rd.nil (w : World) (sz : Nat) : Rd w (.slice none 0 0) 0 sz [] :=
  ⟨none, 0, rfl, Nat.le_refl _, Nat.zero_le _, fun _ => rfl, by simp, fun h => absurd h (Nat.lt_irrefl _)⟩

theorem Rd.own {w : World} {base e sz g n cap : Nat} {cs : List Value} (h : w.ownsRow base e sz (.slice (some ⟨g, 0, none⟩) n cap) n cs) : Rd w (.slice (some ⟨g, 0, none⟩) n cap) n sz cs := by
  have hlt := (h.lt g rfl).2
  have hc := fun j hj => h.cellAt j hj
  obtain ⟨h1, h2⟩ := h
  rcases h2 with ⟨h', _⟩ | ⟨g', cap', cur, h', hb, hg, hnc, hcm, hcs, htake⟩
  · simp at h'
  · simp only [Value.slice.injEq, Option.some.injEq, Addr.mk.injEq, and_true, true_and] at h'
    obtain ⟨rfl, rfl⟩ := h'
    exact ⟨_, _, rfl, hnc, hcm, (fun h => by cases h), h1, fun _ => ⟨g, 0, rfl, hlt, fun j hj => by rw [Nat.zero_add]; exact hc j hj⟩⟩

/-- Pairs: the index and the bits of element i. -/
def ix (L : List (Int × Int)) (i : Nat) : Int := (L.getD i (0, 0)).1
def bt (L : List (Int × Int)) (i : Nat) : Int := (L.getD i (0, 0)).2
def cellsL (L : List (Int × Int)) : List Value := L.flatMap fun p => [.int .i64 p.1, .int .u64 p.2]

theorem cellsL_length (L : List (Int × Int)) : (cellsL L).length = L.length * 2 := by
  induction L with
  | nil => rfl
  | cons p L ih => simp only [cellsL, List.flatMap_cons, List.length_append, List.length_cons, List.length_nil] at ih ⊢; omega

theorem cellsL_ix (L : List (Int × Int)) : ∀ i, i < L.length → (cellsL L)[i * 2]? = some (.int .i64 (ix L i)) ∧ (cellsL L)[i * 2 + 1]? = some (.int .u64 (bt L i)) := by
  induction L with
  | nil => intro i hi; simp at hi
  | cons p L ih =>
    intro i hi
    cases i with
    | zero => exact ⟨rfl, rfl⟩
    | succ i =>
      have h := ih i (by simpa using hi)
      have e1 : (i + 1) * 2 = i * 2 + 2 := by omega
      simp only [cellsL, List.flatMap_cons, ix, bt, e1] at h ⊢
      exact ⟨h.1, h.2⟩

theorem cellsL_append (L M : List (Int × Int)) : cellsL (L ++ M) = cellsL L ++ cellsL M := by simp [cellsL]

/-- The slice value v reads as the pairs L in w. -/
def Prs (w : World) (v : Value) (L : List (Int × Int)) : Prop := Rd w v L.length 2 (cellsL L)

theorem Prs.below {w w' : World} {v : Value} {L : List (Int × Int)} (h : Prs w v L) (hb : Below w.heap.size w w') : Prs w' v L := Rd.below h hb

theorem Prs.cases {w : World} {v : Value} {L : List (Int × Int)} (h : Prs w v L) :
    (L = [] ∧ v = .slice none 0 0) ∨ (∃ x cap, L = [] ∧ cap ≤ maxLen ∧ v = .slice (some x) 0 cap) ∨
    ∃ b off cap, 0 < L.length ∧ v = .slice (some ⟨b, off, none⟩) L.length cap ∧ L.length ≤ cap ∧ cap ≤ maxLen ∧ b < w.heap.size ∧
      (∀ i, i < L.length → w.cell? ⟨b, off + i * 2, none⟩ = some (.int .i64 (ix L i))) ∧ ∀ i, i < L.length → w.cell? ⟨b, off + i * 2 + 1, none⟩ = some (.int .u64 (bt L i)) := by
  obtain ⟨a, cap, rfl, h1, h2, h3, h4, h5⟩ := h
  by_cases hn : 0 < L.length
  · obtain ⟨b, off, rfl, hlt, hc⟩ := h5 hn
    refine .inr (.inr ⟨b, off, cap, hn, rfl, h1, h2, hlt, fun i hi => ?_, fun i hi => ?_⟩)
    · rw [hc (i * 2) (by omega)]; exact (cellsL_ix L i hi).1
    · rw [Nat.add_assoc, hc (i * 2 + 1) (by omega)]; exact (cellsL_ix L i hi).2
  · have hL : L = [] := List.eq_nil_of_length_eq_zero (by omega)
    subst hL
    cases a with
    | none => exact .inl ⟨rfl, by rw [h3 rfl]; rfl⟩
    | some x => exact .inr (.inl ⟨x, cap, rfl, h2, rfl⟩)

/-- One round of a copying loop: element k of the call's own row is written. -/
theorem pair_step {wr : World} {base e g n cap k : Nat} {cs : List Value} {L : List (Int × Int)} (hown : wr.ownsRow base e 2 (.slice (some ⟨g, 0, none⟩) n cap) n cs) (hL : L.length = n) (hlt : k < n)
    (hall : ∀ j, j < k * 2 → cs[j]? = (cellsL L)[j]?) :
    ∃ cs', ((wr.setCell ⟨g, k * 2, none⟩ (.int .i64 (ix L k))).setCell ⟨g, k * 2 + 1, none⟩ (.int .u64 (bt L k))).ownsRow base e 2 (.slice (some ⟨g, 0, none⟩) n cap) n cs' ∧
      ∀ j, j < (k + 1) * 2 → cs'[j]? = (cellsL L)[j]? := by
  have hl := hown.1
  have hi := cellsL_ix L k (by omega)
  refine ⟨_, ((hown.stored (k * 2) (.int .i64 (ix L k))).1.stored (k * 2 + 1) (.int .u64 (bt L k))).1, fun j hj => ?_⟩
  rw [List.getElem?_set]
  by_cases e1 : k * 2 + 1 = j
  · subst e1
    rw [if_pos rfl, if_pos (by simp; omega), hi.2]
  · rw [if_neg e1, List.getElem?_set]
    by_cases e2 : k * 2 = j
    · subst e2
      rw [if_pos rfl, if_pos (by omega), hi.1]
    · rw [if_neg e2]
      exact hall j (by omega)

theorem pair_done {wr : World} {base e g n cap k : Nat} {cs : List Value} {L : List (Int × Int)} (hown : wr.ownsRow base e 2 (.slice (some ⟨g, 0, none⟩) n cap) n cs) (hL : L.length = n) (hk : ¬ k < n)
    (hall : ∀ j, j < k * 2 → cs[j]? = (cellsL L)[j]?) : Prs wr (.slice (some ⟨g, 0, none⟩) n cap) L := by
  have e : cs = cellsL L := by
    apply List.ext_getElem?
    intro j
    by_cases hj : j < n * 2
    · exact hall j (by omega)
    · rw [List.getElem?_eq_none (by rw [hown.1]; omega), List.getElem?_eq_none (by rw [cellsL_length]; omega)]
  subst e
  unfold Prs
  rw [hL]
  exact Rd.own hown

/-- The two cells of element k of the call's own row. -/
theorem pair_cells {wr : World} {base e g n cap : Nat} {cs : List Value} (hown : wr.ownsRow base e 2 (.slice (some ⟨g, 0, none⟩) n cap) n cs) (k : Nat) (hk : k < n) :
    ∃ v0 v1, wr.cell? ⟨g, k * 2, none⟩ = some v0 ∧ wr.cell? ⟨g, k * 2 + 1, none⟩ = some v1 := by
  rw [hown.cellAt _ (by omega), hown.cellAt _ (by omega)]
  have := hown.1
  exact ⟨_, _, List.getElem?_eq_getElem (by omega), List.getElem?_eq_getElem (by omega)⟩

theorem below_two {B : Nat} {w wr : World} (h : Below B w wr) {g i j : Nat} (hg : B ≤ g) (x y : Value) : Below B w ((wr.setCell ⟨g, i, none⟩ x).setCell ⟨g, j, none⟩ y) :=
  (h.setCell (p := ⟨g, i, none⟩) hg x).setCell (p := ⟨g, j, none⟩) hg y

/-- The two cells of a pair laid in a new block. -/
theorem new_two {w : World} {B : Nat} (hB : w.heap.size = B) (x y : Value) (t : TypeId) : ∀ j u, [x, y][j]? = some u → (w.alloc (.cells #[x, y] t)).cell? ((⟨B, 0, none⟩ : Addr).add j) = some u := by
  subst hB
  intro j u hu
  rw [Addr.add_lit, Nat.zero_add]
  rw [cell_of_row _ w.heap.size j #[x, y] t (0, 0) (heap_alloc_new w _)]
  simpa using hu

theorem two_oneCell {x y : Int} {k l : IntKind} : ∀ u ∈ [Value.int k x, Value.int l y], u.oneCell' = true := by
  intro u hu
  simp at hu
  rcases hu with rfl | rfl <;> rfl

theorem drewN_size (w : World) (n : Nat) : (w.drewN n).heap.size = w.heap.size := rfl

theorem grow_below {w wr w1 : World} {n : Nat} {o : Obj} (hbel : Below w.heap.size w wr) (hg : ((wr.drewN n).alloc o).grownBy w1 (some w.heap.size)) : Below w.heap.size w w1 :=
  ((below_drewN hbel n).alloc (by rw [drewN_size]; exact hbel.size) o).grown hg (by simp; have := hbel.size; omega) (fun k hk => by cases hk; exact Nat.le_refl _)

/-- append within the capacity of a row of the call's own, as one step of a region that draws. -/
theorem step_append_fits {P : Program} {ops : Array Oper} {o : Oper} {a : Act} {w : World} {K : Act → World → Prop} {Q : Exit → Act → World → Prop} {E : Prop}
    (hg : o.guard = none) (s x : Operand) (t : TypeId) (hop : o.op = Op.call { callee := Callee.builtin Builtin.append, args := #[s, x], argTypes := #[t, t] })
    (base : Nat) (e : TypeId) (i : TypeInfo) (size : Nat) (h1 : P.underlying t = some (.slice e)) (h2 : P.info? e = some i) (h4 : i.size = size)
    (g k cap : Nat) (xs : List Value) (hs : a.eval s = .slice (some ⟨g, 0, none⟩) k cap) (hown : w.ownsRow base e size (.slice (some ⟨g, 0, none⟩) k cap) k xs)
    (ad : Addr) (m c : Nat) (news : List Value) (hx : a.eval x = .slice (some ad) m c) (hn : news.length = m * size) (hc : ∀ j u, news[j]? = some u → w.cell? (ad.add j) = some u) (h1c : ∀ u ∈ news, u.oneCell' = true)
    (b1 : k + m ≤ cap)
    (hK : ∀ w', w'.ownsRow base e size (.slice (some ⟨g, 0, none⟩) (k + m) cap) (k + m) (xs ++ news) → w.grownBy w' (some g) → K (a.put o.dst (.slice (some ⟨g, 0, none⟩) (k + m) cap)) w') :
    if Region.wanted o (yielded ops a.tmps) = true then Oper.wp P o a w K Q else E := by
  have hw : Region.wanted o (yielded ops a.tmps) = true := by simp [Region.wanted, hg]
  rw [if_pos hw]
  obtain ⟨w', hrun, r1, r2⟩ := run_append_fits (P := P) w base t o.type e i size h1 h2 h4 g k cap xs hown ad m c news hn hc h1c b1
  unfold Oper.wp
  simp [execOp, hop, resolve, invoke, builtin, hs, hx, hrun, Result.andThen]
  exact hK w' r1 r2

theorem ret_bool {a b : Bool} (h : a = b) : Ending.returned (.bool a) = .returned (.bool b) := by rw [h]

/-- Every slice value that reads: its shape. -/
theorem Rd.shape {w : World} {v : Value} {n sz : Nat} {cs : List Value} (h : Rd w v n sz cs) : ∃ a cap, v = .slice a n cap ∧ n ≤ maxLen := by
  obtain ⟨a, cap, rfl, h1, h2, _⟩ := h
  exact ⟨a, cap, rfl, Nat.le_trans h1 h2⟩

end Go.Proofs.Qxb6600021a
