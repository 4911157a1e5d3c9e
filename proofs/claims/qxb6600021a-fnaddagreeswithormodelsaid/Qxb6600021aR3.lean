/-
  What stores and appends make of a run; the plain function of add.
-/
import Derived.Test.Qxb6600021aR2
import Derived.Deep.LoopGhost
namespace Go.Proofs.Qxb6600021a
open Go.RowKit
set_option linter.unusedVariables false

def andU (x y : Int) : Int := bits .and .u64 x y
def zeros (k : Nat) : List Int := List.replicate k 0
def pad (ws : List Int) (N : Nat) : List Int := ws ++ zeros (N - ws.length)
def setW (ws : List Int) (i : Nat) (b : Int) : List Int := ws.set i (orU (wd ws i) b)
def over : List Int → List (Int × Int) → List Int
  | l, [] => l
  | l, p :: ch => over (l.set p.1.toNat p.2) ch

theorem zeros_length (k : Nat) : (zeros k).length = k := by simp [zeros]
theorem zeros_snoc (k : Nat) : zeros (k + 1) = zeros k ++ [0] := by simp [zeros, List.replicate_succ']
theorem pad_length (ws : List Int) (N : Nat) : (pad ws N).length = max ws.length N := by simp [pad, zeros]; omega
theorem setW_length (ws : List Int) (i : Nat) (b : Int) : (setW ws i b).length = ws.length := by simp [setW]
theorem over_length (ch : List (Int × Int)) : ∀ l, (over l ch).length = l.length := by
  induction ch with
  | nil => intro l; rfl
  | cons p ch ih => intro l; rw [over, ih]; simp

section
variable {w w1 wr : World} {base R : Nat} {ws : List Int} {own : Bool} {ch : List (Int × Int)} {vw vc v' : Value}

/-- A store into field 0 (the words' slice) of the run. -/
theorem run_put_words (hblk : w1.heap[R]? = some (.cells #[vw, .bool own, vc] 87 (0, 0))) (hle : base ≤ R) {ws' : List Int} (hw : w1.ownsRow base 29 1 v' ws'.length (u64s ws')) (hc : w1.ownsRow base 118 2 vc ch.length (cellsL ch)) :
    Run (w1.setCell ⟨R, 0, none⟩ v') base R ws' own ch v' vc := by
  have h0 : Run w1 base R ws' own ch v' vc → True := fun _ => trivial
  have hne : ∀ {e size n : Nat} {v : Value} {xs : List Value}, e ≠ 87 → w1.ownsRow base e size v n xs → ∀ g, v.ownBlock = some g → (w1.setCell ⟨R, 0, none⟩ v').heap[g]? = w1.heap[g]? := by
    intro e size n v xs he h g hg
    refine heap_setCell_other w1 ⟨R, 0, none⟩ g v' (fun e1 => ?_)
    rcases h.2 with ⟨e2, _⟩ | ⟨g', cap, cur, e2, hb, hgg, _⟩
    · rw [e2] at hg; simp [Value.ownBlock] at hg
    · rw [e2] at hg; simp [Value.ownBlock] at hg; subst hg
      have e1 : g' = R := e1
      rw [e1, hblk] at hgg
      simp at hgg
      exact he hgg.2.symm
  refine ⟨?_, hle, own_of_blocks hw (hne (by decide) hw), own_of_blocks hc (hne (by decide) hc)⟩
  rw [heap_setCell_same w1 R 0 _ 87 v' hblk]
  rfl

/-- A store into field 2 (the changed words' slice). -/
theorem run_put_chg (hblk : w1.heap[R]? = some (.cells #[vw, .bool own, vc] 87 (0, 0))) (hle : base ≤ R) (hw : w1.ownsRow base 29 1 vw ws.length (u64s ws)) {ch' : List (Int × Int)} (hc : w1.ownsRow base 118 2 v' ch'.length (cellsL ch')) :
    Run (w1.setCell ⟨R, 2, none⟩ v') base R ws own ch' vw v' := by
  have hne : ∀ {e size n : Nat} {v : Value} {xs : List Value}, e ≠ 87 → w1.ownsRow base e size v n xs → ∀ g, v.ownBlock = some g → (w1.setCell ⟨R, 2, none⟩ v').heap[g]? = w1.heap[g]? := by
    intro e size n v xs he h g hg
    refine heap_setCell_other w1 ⟨R, 2, none⟩ g v' (fun e1 => ?_)
    rcases h.2 with ⟨e2, _⟩ | ⟨g', cap, cur, e2, hb, hgg, _⟩
    · rw [e2] at hg; simp [Value.ownBlock] at hg
    · rw [e2] at hg; simp [Value.ownBlock] at hg; subst hg
      have e1 : g' = R := e1
      rw [e1, hblk] at hgg
      simp at hgg
      exact he hgg.2.symm
  refine ⟨?_, hle, own_of_blocks hw (hne (by decide) hw), own_of_blocks hc (hne (by decide) hc)⟩
  rw [heap_setCell_same w1 R 2 _ 87 v' hblk]
  rfl

/-- What a law on append leaves of the run's own block and of the other row: as they were. -/
theorem run_kept (h : Run wr base R ws own ch vw vc) {o : Obj} {row : Option Nat} (hg : (wr.alloc o).grownBy w1 row) (h1 : row ≠ some R) :
    w1.heap[R]? = some (.cells #[vw, .bool own, vc] 87 (0, 0)) ∧ (vw.ownBlock = none ∨ vw.ownBlock ≠ row → w1.ownsRow base 29 1 vw ws.length (u64s ws)) ∧ (vc.ownBlock = none ∨ vc.ownBlock ≠ row → w1.ownsRow base 118 2 vc ch.length (cellsL ch)) := by
  refine ⟨?_, fun hv => (h.words.alloc o).kept hg hv, fun hv => (h.chg.alloc o).kept hg hv⟩
  rw [hg.block R (by have := h.lt; simp; omega) (fun e => h1 e.symm), Below.heap_alloc wr o R h.lt]
  exact h.blk

/-- append to the words. -/
theorem run_app_words (h : Run wr base R ws own ch vw vc) {o : Obj} (hown : w1.ownsRow base 29 1 v' (ws.length + 1) (u64s ws ++ [.int .u64 0])) (hg : (wr.alloc o).grownBy w1 vw.ownBlock) :
    Run (w1.setCell ⟨R, 0, none⟩ v') base R (ws ++ [0]) own ch v' vc := by
  have ha := h.apart
  have hk := run_kept h hg ha.1
  refine run_put_words hk.1 h.le ?_ (hk.2.2 ?_)
  · rw [u64s_append, List.length_append]; exact hown
  · cases hb : vc.ownBlock with
    | none => exact .inl rfl
    | some g => exact .inr (fun e => ha.2.2 g e.symm hb)

/-- append to the changed words. -/
theorem run_app_chg (h : Run wr base R ws own ch vw vc) {o : Obj} {x y : Int} (hown : w1.ownsRow base 118 2 v' (ch.length + 1) (cellsL ch ++ [.int .i64 x, .int .u64 y])) (hg : (wr.alloc o).grownBy w1 vc.ownBlock) :
    Run (w1.setCell ⟨R, 2, none⟩ v') base R ws own (ch ++ [(x, y)]) vw v' := by
  have ha := h.apart
  have hk := run_kept h hg ha.2.1
  refine run_put_chg hk.1 h.le (hk.2.1 ?_) ?_
  · cases hb : vw.ownBlock with
    | none => exact .inl rfl
    | some g => exact .inr (fun e => ha.2.2 g hb e.symm)
  · rw [cellsL_snoc, List.length_append]; exact hown

/-- A store into the words' row. -/
theorem run_set_word {g n c i : Nat} {x : Int} (h : Run wr base R ws own ch (.slice (some ⟨g, 0, none⟩) n c) vc) (hn : ws.length = n) : Run (wr.setCell ⟨g, i, none⟩ (.int .u64 x)) base R (ws.set i x) own ch (.slice (some ⟨g, 0, none⟩) n c) vc := by
  have ha := h.apart
  have hw := h.words
  rw [hn] at hw
  have hs := hw.stored i (.int .u64 x)
  refine ⟨?_, h.le, ?_, ?_⟩
  · rw [heap_setCell_other wr ⟨g, i, none⟩ R _ (fun e => ha.1 (by rw [e]; rfl))]; exact h.blk
  · rw [List.length_set, hn, u64s_set]; exact hs.1
  · exact own_of_blocks h.chg fun g' hg' => heap_setCell_other wr ⟨g, i, none⟩ g' _ (fun e => ha.2.2 g' (by rw [e]; rfl) hg')

theorem below_run {B i : Nat} {a : World} {g : Nat} {x : Value} (hb : Below B a wr) (h : B ≤ g) : Below B a (wr.setCell ⟨g, i, none⟩ x) := hb.setCell (p := ⟨g, i, none⟩) h x
end

end Go.Proofs.Qxb6600021a
