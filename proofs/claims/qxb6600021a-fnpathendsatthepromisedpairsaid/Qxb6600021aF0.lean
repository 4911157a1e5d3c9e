/-
  The paths' words: cells, the back map and the changes map as functions.
-/
import Derived.Test.Qxb6600021aR1
import Derived.Maps.OwnSet
import Derived.DeepKeys4
import Derived.Laws.StructEq
namespace Go.Proofs.Qxb6600021a
open Go.RowKit
open Go.Maps (Keyed)
set_option linter.unusedVariables false

/-- A cell: two indexes and the mark merged. -/
structure Cel where
  f : Int
  t : Int
  m : Bool
deriving DecidableEq

def c0 : Cel := ⟨0, 0, false⟩
abbrev cv (c : Cel) : Value := .agg #[.int .i64 c.f, .int .i64 c.t, .bool c.m]
def cl (c : Cel) : List Value := [.int .i64 c.f, .int .i64 c.t, .bool c.m]
def Cel.ok (c : Cel) : Prop := (Lit.int .i64 c.f).wf = true ∧ (Lit.int .i64 c.t).wf = true

theorem laidOutT : laidOutB Try.prog = true := by kernel_rfl
theorem row99 : (99 : TypeId) < Try.prog.types.size := of_decide_eq_true (by kernel_rfl)
theorem cells99 : Try.prog.cellsOf 99 = 3 := by kernel_rfl
theorem cells3' : Try.prog.cellsOf 3 = 1 := by kernel_rfl
theorem cells4' : Try.prog.cellsOf 4 = 1 := by kernel_rfl
theorem keyType99 : Try.prog.keyType 99 = true := by kernel_rfl
theorem keyAt99 : Try.prog.keyTypeAt 2 99 = true := by kernel_rfl
theorem law99 : Keyed Try.prog 99 := Keyed.of_law (deep_law_laid laidOutT (m := 2) (Nat.le_of_ble_eq_true rfl) row99 keyAt99 (by rw [Try.underlying99]))
theorem tsz : ∃ m, Try.prog.types.size + 1 = m + 2 := ⟨Try.prog.types.size - 1, by
  have h : 99 < Try.prog.types.size := row99
  omega⟩

theorem key99 (c : Cel) (h : c.ok) : ∃ l, keyOf Try.prog 99 (cv c) = some l := by
  obtain ⟨h1, h2⟩ := h
  obtain ⟨m, hm⟩ := tsz
  unfold keyOf
  simp only [Try.underlying99]
  rw [if_pos (by simp [keyType99, Value.formed, Try.underlying99, cells99]), hm]
  unfold Program.keyLits
  simp only [Try.underlying99, Value.cells]
  rw [if_pos (by rw [cells99]; simp)]
  simp [Program.keyLits, cells3', cells4', Try.underlying3, Try.underlying4, h1, h2]

theorem cv_inj {a b : Cel} (h : cv a = cv b) : a = b := by
  obtain ⟨f, t, m⟩ := a
  obtain ⟨f', t', m'⟩ := b
  simpa [cv] using h

theorem key99_inj {a b : Cel} {l : Lit} (ha : keyOf Try.prog 99 (cv a) = some l) (hb : keyOf Try.prog 99 (cv b) = some l) : a = b := cv_inj (law99.inj ha hb)

/-- An element of the map reads as itself. -/
def hv (v : Value) : Option (DataW Value × List MemPlace) := some (.held v, [])

/-- Block b of w is a map of at most n entries; at the cell c it holds what f says. -/
def MapF (w : World) (b n : Nat) (f : Cel → Option Value) : Prop :=
  ∃ D : DataW Value, w.ownsMap Try.prog 99 hv b n D ∧ ∀ (c : Cel) (l : Lit), keyOf Try.prog 99 (cv c) = some l → Maps.has D l = (f c).isSome ∧ ∀ z, D.atKey l (.held z) = .held ((f c).getD z)

theorem MapF.made (w : World) : MapF (w.alloc (.map #[] 0)) w.heap.size 0 (fun _ => none) :=
  ⟨.map [], World.ownsMap_made w Try.prog 99 hv, fun c l h => ⟨rfl, fun z => rfl⟩⟩

theorem MapF.lt {w : World} {b n : Nat} {f : Cel → Option Value} (h : MapF w b n f) : b < w.heap.size := by
  obtain ⟨D, h, _⟩ := h
  exact h.lt

theorem MapF.block {w w' : World} {b n : Nat} {f : Cel → Option Value} (h : MapF w b n f) (he : w'.heap[b]? = w.heap[b]?) : MapF w' b n f := by
  obtain ⟨D, ⟨es, clock, hb, rest⟩, h2⟩ := h
  exact ⟨D, ⟨es, clock, he.trans hb, rest⟩, h2⟩

theorem MapF.below {w w' : World} {b n : Nat} {f : Cel → Option Value} (h : MapF w b n f) (hb : Below w.heap.size w w') : MapF w' b n f := h.block (hb.block b h.lt)

theorem MapF.mono {w : World} {b n n' : Nat} {f : Cel → Option Value} (h : MapF w b n f) (hn : n ≤ n') : MapF w b n' f := by
  obtain ⟨D, h1, h2⟩ := h
  exact ⟨D, h1.mono hn, h2⟩

theorem MapF.look {w : World} {b n : Nat} {f : Cel → Option Value} (h : MapF w b n f) {t e : TypeId} (ht : Try.prog.underlying t = some (.map 99 e)) {z : Value} (hz : (zeroValue e).run Try.prog w = .ok z w) {c : Cel} (hc : c.ok) :
    (Instr.lookup t (.map (some b)) (cv c) false).run Try.prog w = .ok ((f c).getD z) w := by
  obtain ⟨D, h1, h2⟩ := h
  obtain ⟨l, hl⟩ := key99 c hc
  obtain ⟨v, ps, hrun, hv'⟩ := h1.lookup law99 ht hz (zd := .held z) (zp := []) rfl hl
  rw [(h2 c l hl).2 z] at hv'
  simp only [hv, Option.some.injEq, Prod.mk.injEq, DataW.held.injEq] at hv'
  rw [hrun, hv'.1]

theorem MapF.look_ok {w : World} {b n : Nat} {f : Cel → Option Value} (h : MapF w b n f) {t e : TypeId} (ht : Try.prog.underlying t = some (.map 99 e)) {z : Value} (hz : (zeroValue e).run Try.prog w = .ok z w) {c : Cel} (hc : c.ok) :
    (Instr.lookup t (.map (some b)) (cv c) true).run Try.prog w = .ok (.tuple #[(f c).getD z, .bool (f c).isSome]) w := by
  obtain ⟨D, h1, h2⟩ := h
  obtain ⟨l, hl⟩ := key99 c hc
  obtain ⟨v, ps, hrun, hv'⟩ := h1.look_ok law99 ht hz (zd := .held z) (zp := []) rfl hl
  rw [(h2 c l hl).2 z] at hv'
  simp only [hv, Option.some.injEq, Prod.mk.injEq, DataW.held.injEq] at hv'
  rw [hrun, hv'.1, (h2 c l hl).1]

def upd (f : Cel → Option Value) (c : Cel) (v : Value) : Cel → Option Value := fun x => if x = c then some v else f x

theorem MapF.put {w : World} {b n : Nat} {f : Cel → Option Value} (h : MapF w b n f) {t e : TypeId} (ht : Try.prog.underlying t = some (.map 99 e)) (hn : n < maxLen) {c : Cel} (hc : c.ok) (v : Value) :
    ∃ w', (Instr.mapUpdate t (.map (some b)) (cv c) v).run Try.prog w = .ok () w' ∧ MapF w' b (n + 1) (upd f c v) ∧ w.grownBy w' (some b) := by
  obtain ⟨D, h1, h2⟩ := h
  obtain ⟨l, hl⟩ := key99 c hc
  obtain ⟨w', hrun, ho, hg⟩ := h1.update law99 ht hn hl (val := v) (d := .held v) (ps := []) rfl
  refine ⟨w', hrun, ⟨_, ho, fun c' l' hl' => ?_⟩, hg⟩
  have hm : Maps.IsMap D := by obtain ⟨es, clock, _, _, _, rfl⟩ := h1; exact ⟨_, rfl⟩
  by_cases e : c' = c
  · subst e
    rw [hl] at hl'
    cases hl'
    rw [Maps.has_put_same hm (law99.key hl), upd, if_pos rfl]
    exact ⟨rfl, fun z => by rw [Maps.atKey_put_same hm (law99.key hl)]; rfl⟩
  · have hne : l' ≠ l := fun el => e (key99_inj hl' (el ▸ hl))
    rw [Maps.has_put_other hne, upd, if_neg e]
    exact ⟨(h2 c' l' hl').1, fun z => by rw [Maps.atKey_put_other hne]; exact (h2 c' l' hl').2 z⟩

theorem zero99 (w : World) : (zeroValue 99).run Try.prog w = .ok (cv c0) w := by kernel_rfl
theorem zero111 (w : World) : (zeroValue 111).run Try.prog w = .ok (.slice none 0 0) w := by kernel_rfl


theorem held69 : Try.prog.stoodInHeld 69 = false := by kernel_rfl
theorem eqI69 (w : World) (a b : Cel) : (Op.equalIn 10000 69 (cv a) (cv b)).run Try.prog w = .ok (decide (a = b)) w := by
  obtain ⟨f, t, m⟩ := a
  obtain ⟨f', t', m'⟩ := b
  have ht : Try.prog.underlying 69 = some (.struct (Try.prog.fieldsOf 69)) := by simp [Program.fieldsOf, Try.underlying69]
  rw [run_equalIn_struct w 9999 69 _ _ ht held69]
  simp only [Program.fieldsOf, Try.underlying69, Op.eqFields]
  simp [go_sem]
  by_cases e1 : f = f' <;> by_cases e2 : t = t' <;> by_cases e3 : m = m' <;> simp [e1, e2, e3]
theorem eq69 (w : World) (a b : Cel) : (binOp .eql 69 (cv a) (cv b)).run Try.prog w = .ok (.bool (decide (a = b))) w := by
  rw [run_eql_struct, eqI69]; rfl
theorem neq69 (w : World) (a b : Cel) : (binOp .neq 69 (cv a) (cv b)).run Try.prog w = .ok (.bool (!decide (a = b))) w := by
  rw [run_neq_struct, eqI69]; rfl
theorem held99 : Try.prog.stoodInHeld 99 = false := by kernel_rfl
theorem eqI99 (w : World) (a b : Cel) : (Op.equalIn 10000 99 (cv a) (cv b)).run Try.prog w = .ok (decide (a = b)) w := by
  obtain ⟨f, t, m⟩ := a
  obtain ⟨f', t', m'⟩ := b
  have ht : Try.prog.underlying 99 = some (.struct (Try.prog.fieldsOf 99)) := by simp [Program.fieldsOf, Try.underlying99]
  rw [run_equalIn_struct w 9999 99 _ _ ht held99]
  simp only [Program.fieldsOf, Try.underlying99, Op.eqFields]
  simp [go_sem]
  by_cases e1 : f = f' <;> by_cases e2 : t = t' <;> by_cases e3 : m = m' <;> simp [e1, e2, e3]
theorem eq99 (w : World) (a b : Cel) : (binOp .eql 99 (cv a) (cv b)).run Try.prog w = .ok (.bool (decide (a = b))) w := by
  rw [run_eql_struct, eqI99]; rfl
theorem neq99 (w : World) (a b : Cel) : (binOp .neq 99 (cv a) (cv b)).run Try.prog w = .ok (.bool (!decide (a = b))) w := by
  rw [run_neq_struct, eqI99]; rfl
end Go.Proofs.Qxb6600021a
