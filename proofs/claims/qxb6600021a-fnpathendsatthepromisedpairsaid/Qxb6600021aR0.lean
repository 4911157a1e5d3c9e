/-
  The run of shared words: what it is in memory; copy on elements of several cells.
-/
import Derived.Test.Qxb6600021aPlain
import Derived.Laws.CopyOwn
namespace Go.Proofs.Qxb6600021a
open Go.RowKit
set_option linter.unusedVariables false

def u64s (ws : List Int) : List Value := ws.map (Value.int .u64)
def wd (ws : List Int) (i : Nat) : Int := ws.getD i 0

theorem u64s_length (ws : List Int) : (u64s ws).length = ws.length := by simp [u64s]
theorem u64s_at (ws : List Int) (i : Nat) (h : i < ws.length) : (u64s ws)[i]? = some (.int .u64 (wd ws i)) := by
  simp [u64s, wd, List.getD, h]
theorem u64s_append (a b : List Int) : u64s (a ++ b) = u64s a ++ u64s b := by simp [u64s]
theorem u64s_set (ws : List Int) (i : Nat) (x : Int) : u64s (ws.set i x) = (u64s ws).set i (.int .u64 x) := by simp [u64s, List.map_set]
theorem u64s_one (ws : List Int) : ∀ u ∈ u64s ws, u.oneCell' = true := ints_oneCell _ _

/-- A run: block R holds the words' slice, the mark 'owned' and the changed words' slice; both rows are the call's own (from block 'base' on). -/
structure Run (w : World) (base R : Nat) (ws : List Int) (own : Bool) (ch : List (Int × Int)) (vw vc : Value) : Prop where
  blk : w.heap[R]? = some (.cells #[vw, .bool own, vc] 87 (0, 0))
  le : base ≤ R
  words : w.ownsRow base 29 1 vw ws.length (u64s ws)
  chg : w.ownsRow base 118 2 vc ch.length (cellsL ch)

/-- An owned row's shape. -/
theorem own_form {w : World} {base e size n : Nat} {v : Value} {xs : List Value} (h : w.ownsRow base e size v n xs) :
    ∃ a c, v = .slice a n c ∧ n ≤ c ∧ c ≤ maxLen ∧ (0 < n → ∃ g, a = some ⟨g, 0, none⟩ ∧ base ≤ g ∧ g < w.heap.size) := by
  obtain ⟨h1, h2⟩ := h
  rcases h2 with ⟨rfl, rfl⟩ | ⟨g, cap, cur, rfl, hb, hg, hnc, hcm, hcs, htake⟩
  · exact ⟨none, 0, rfl, Nat.le_refl _, Nat.zero_le _, fun h => absurd h (by omega)⟩
  · exact ⟨_, cap, rfl, hnc, hcm, fun _ => ⟨g, rfl, hb, (Array.getElem?_eq_some_iff.1 hg).1⟩⟩

/-- The element type of an owned row's block. -/
theorem own_blk {w : World} {base e size n g c : Nat} {xs : List Value} (h : w.ownsRow base e size (.slice (some ⟨g, 0, none⟩) n c) n xs) : ∃ cur, w.heap[g]? = some (.cells cur e (0, 0)) := by
  rcases h.2 with ⟨h', _⟩ | ⟨g', cap', cur, h', hb, hg, _⟩
  · simp at h'
  · simp only [Value.slice.injEq, Option.some.injEq, Addr.mk.injEq, and_true, true_and] at h'
    obtain ⟨rfl, rfl⟩ := h'
    exact ⟨cur, hg⟩

theorem own_of_blocks {w w' : World} {base e size n : Nat} {v : Value} {xs : List Value} (h : w.ownsRow base e size v n xs) (hk : ∀ g, v.ownBlock = some g → w'.heap[g]? = w.heap[g]?) : w'.ownsRow base e size v n xs := by
  refine ⟨h.1, ?_⟩
  rcases h.2 with hn | ⟨g, cap, cur, rfl, hb, hgg, rest⟩
  · exact .inl hn
  · exact .inr ⟨g, cap, cur, rfl, hb, (hk g rfl).trans hgg, rest⟩

theorem own_below {w w' : World} {base e size n : Nat} {v : Value} {xs : List Value} (h : w.ownsRow base e size v n xs) (hb : Below w.heap.size w w') : w'.ownsRow base e size v n xs :=
  own_of_blocks h fun g hg => hb.block g (h.lt g hg).2

theorem Run.lt {w : World} {base R : Nat} {ws : List Int} {own : Bool} {ch : List (Int × Int)} {vw vc : Value} (h : Run w base R ws own ch vw vc) : R < w.heap.size := (Array.getElem?_eq_some_iff.1 h.blk).1

theorem Run.below {w w' : World} {base R : Nat} {ws : List Int} {own : Bool} {ch : List (Int × Int)} {vw vc : Value} (h : Run w base R ws own ch vw vc) (hb : Below w.heap.size w w') : Run w' base R ws own ch vw vc :=
  ⟨(hb.block R h.lt).trans h.blk, h.le, own_below h.words hb, own_below h.chg hb⟩

theorem Run.cells {w : World} {base R : Nat} {ws : List Int} {own : Bool} {ch : List (Int × Int)} {vw vc : Value} (h : Run w base R ws own ch vw vc) :
    w.cell? ⟨R, 0, none⟩ = some vw ∧ w.cell? ⟨R, 1, none⟩ = some (.bool own) ∧ w.cell? ⟨R, 2, none⟩ = some vc ∧ w.frozen? ⟨R, 0, none⟩ = false ∧ w.frozen? ⟨R, 1, none⟩ = false ∧ w.frozen? ⟨R, 2, none⟩ = false := by
  refine ⟨?_, ?_, ?_, frozen_of_row w R 0 _ 87 h.blk, frozen_of_row w R 1 _ 87 h.blk, frozen_of_row w R 2 _ 87 h.blk⟩
  · rw [cell_of_row w R 0 _ 87 (0, 0) h.blk]; rfl
  · rw [cell_of_row w R 1 _ 87 (0, 0) h.blk]; rfl
  · rw [cell_of_row w R 2 _ 87 (0, 0) h.blk]; rfl

theorem Run.apart {w : World} {base R : Nat} {ws : List Int} {own : Bool} {ch : List (Int × Int)} {vw vc : Value} (h : Run w base R ws own ch vw vc) :
    vw.ownBlock ≠ some R ∧ vc.ownBlock ≠ some R ∧ ∀ g, vw.ownBlock = some g → vc.ownBlock ≠ some g := by
  have hw : ∀ g, vw.ownBlock = some g → ∃ cur, w.heap[g]? = some (.cells cur 29 (0, 0)) := by
    intro g hg
    rcases h.words.2 with ⟨e, _⟩ | ⟨g', cap, cur, e, hb, hgg, _⟩
    · rw [e] at hg; simp [Value.ownBlock] at hg
    · rw [e] at hg; simp [Value.ownBlock] at hg; subst hg; exact ⟨cur, hgg⟩
  have hc : ∀ g, vc.ownBlock = some g → ∃ cur, w.heap[g]? = some (.cells cur 118 (0, 0)) := by
    intro g hg
    rcases h.chg.2 with ⟨e, _⟩ | ⟨g', cap, cur, e, hb, hgg, _⟩
    · rw [e] at hg; simp [Value.ownBlock] at hg
    · rw [e] at hg; simp [Value.ownBlock] at hg; subst hg; exact ⟨cur, hgg⟩
  refine ⟨fun e => ?_, fun e => ?_, fun g e1 e2 => ?_⟩
  · obtain ⟨cur, hh⟩ := hw R e; rw [h.blk] at hh; simp at hh
  · obtain ⟨cur, hh⟩ := hc R e; rw [h.blk] at hh; simp at hh
  · obtain ⟨cur, h1⟩ := hw g e1; obtain ⟨cur2, h2⟩ := hc g e2; rw [h1] at h2; simp at h2

theorem Prs.ofOwn {w : World} {base e : Nat} {v : Value} {L : List (Int × Int)} (h : w.ownsRow base e 2 v L.length (cellsL L)) : Prs w v L := by
  rcases h.2 with ⟨rfl, hn⟩ | ⟨g, cap, cur, rfl, _⟩
  · have hL : L = [] := List.eq_nil_of_length_eq_zero hn
    subst hL
    exact Rd.nil _ 2
  · exact Rd.own h

/-- copy, elements of several cells, dst within a row of the call's own: the run. -/
theorem run_copy_sz {P : Program} (w : World) (dT sT ty elem : TypeId) (i : TypeInfo) (g o dLen dCap : Nat) (a : Addr) (sLen sCap : Nat) (cur : Array Value) (t : TypeId) (cs : List Value)
    (hu : P.underlying dT = some (.slice elem)) (hi : P.info? elem = some i)
    (hg : w.heap[g]? = some (.cells cur t (0, 0))) (hn : cs.length = Nat.min sLen dLen * i.size)
    (hsrc : ∀ j v, cs[j]? = some v → w.cell? (a.add j) = some v) (hfit : o + cs.length ≤ cur.size) (h1 : ∀ v ∈ cs, v.oneCell' = true) :
    (Builtin.copy_ #[dT, sT] ty #[.slice (some ⟨g, o, none⟩) dLen dCap, .slice (some a) sLen sCap]).run P w =
      .ok (goInt (Nat.min sLen dLen)) (w.setRow g (cur.toList.take o ++ cs ++ cur.toList.drop (o + cs.length)).toArray) := by
  have hl := run_loadCells_list (P := P) w a cs hsrc
  have hst := run_storeCells_at P g o t cs 0 cur w hg (by simpa using hfit) h1
  simp only [Nat.add_zero] at hst
  simp [Builtin.copy_, run_underlying hu, Builtin.lenOf, Builtin.firstCells, sizeOf, typeInfo, hi, ← hn, hl, hst]

theorem run_copy_zero {P : Program} (w : World) (dT sT ty elem : TypeId) (i : TypeInfo) (dp sp : Option Addr) (dLen dCap sLen sCap : Nat)
    (hu : P.underlying dT = some (.slice elem)) (hi : P.info? elem = some i) (hn : Nat.min sLen dLen = 0) :
    (Builtin.copy_ #[dT, sT] ty #[.slice dp dLen dCap, .slice sp sLen sCap]).run P w = .ok (goInt 0) w := by
  cases dp <;> cases sp <;> simp [Builtin.copy_, run_underlying hu, Builtin.lenOf, Builtin.firstCells, sizeOf, typeInfo, hi, hn, loadCells, loadCellsFrom, storeCells]

end Go.Proofs.Qxb6600021a
