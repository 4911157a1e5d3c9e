/-
  The run's readers: len (55), ZZRunLen (30), ZZNewRun (28), ZZRunOwned (36), ZZRunChanged (32).
-/
import Derived.Test.Qxb6600021aR1
import Derived.Test.Qxb6600021aU2
namespace Go.Proofs.Qxb6600021a
open Go.RowKit
set_option linter.unusedVariables false

theorem ret_i64 {a b : Int} (h : a = b) : Ending.returned (.int .i64 a) = .returned (.int .i64 b) := by rw [h]

/-- How many words the run counts. -/
def runLen (ws : List Int) (ch : List (Int × Int)) : Int := if ch.length = 0 then (ws.length : Int) else max (ws.length : Int) (ix ch (ch.length - 1) + 1)

set_option maxHeartbeats 400000 in
set_option maxRecDepth 100000 in
theorem len55 {base R : Nat} {ws : List Int} {own : Bool} {ch : List (Int × Int)} {vw vc : Value} (w : World) (h : Run w base R ws own ch vw vc) (hn : ws.length ≤ 1048576) (hq : ch.length ≤ 8) (hb : ∀ j, j < ch.length → 0 ≤ ix ch j ∧ ix ch j ≤ 65536) :
    Calls Try.prog 55 #[.pointer (some ⟨R, 0, none⟩)] w fun e w' => e = .returned (.int .i64 (runLen ws ch)) ∧ Below w.heap.size w w' := by
  obtain ⟨c0, c1, c2, f0, f1, f2⟩ := h.cells
  obtain ⟨aw, cw, rfl, _, _, _⟩ := own_form h.words
  obtain ⟨ac, cc, rfl, _, _, hg⟩ := own_form h.chg
  have HC : Hid _ := h.chg
  obtain ⟨n, hn'⟩ : ∃ n, n = ws.length := ⟨_, rfl⟩
  obtain ⟨q, hq'⟩ : ∃ q, q = ch.length := ⟨_, rfl⟩
  unfold runLen
  rw [← hq'] at HC hg hq hb c2 ⊢
  rw [← hn'] at hn c0 ⊢
  clear hn' h
  have HQ : Hid (q = ch.length) := hq'
  clear hq'
  by_cases h0 : q = 0
  · subst h0
    rw [if_pos rfl]
    go_enter Try.func55, Try.ntmps55
    go_wp2
    go_ret
    exact ⟨rfl, Below.refl _ _⟩
  · rw [if_neg h0]
    obtain ⟨g, hac, _, _⟩ := hg (by omega)
    subst hac
    have hi := cellsL_ix ch (q - 1) (by rw [← HQ.out]; omega)
    have c3 : w.cell? ⟨g, (q - 1) * 2, none⟩ = some (.int .i64 (ix ch (q - 1))) := by rw [World.ownsRow.cellAt HC.out _ (by omega)]; exact hi.1
    have hbd := hb (q - 1) (by omega)
    clear hi hb hg
    go_enter Try.func55, Try.ntmps55
    go_wp2
    go_region
    all_goals go_wp2
    all_goals
      go_ret
      exact ⟨ret_i64 (by omega), (Below.refl _ _).drew⟩

set_option maxHeartbeats 400000 in
theorem zlen30 {base R : Nat} {ws : List Int} {own : Bool} {ch : List (Int × Int)} {vw vc : Value} (w : World) (h : Run w base R ws own ch vw vc) (hn : ws.length ≤ 1048576) (hq : ch.length ≤ 8) (hb : ∀ j, j < ch.length → 0 ≤ ix ch j ∧ ix ch j ≤ 65536) :
    Calls Try.prog 30 #[.pointer (some ⟨R, 0, none⟩)] w fun e w' => e = .returned (.int .i64 (runLen ws ch)) ∧ Below w.heap.size w w' := by
  go_enter Try.func30, Try.ntmps30
  go_wp2_with fail
  refine (len55 _ h hn hq hb).mono ?_
  rintro e w1 ⟨rfl, b1⟩
  go_wp2
  go_ret
  exact ⟨rfl, b1⟩

set_option maxHeartbeats 400000 in
theorem owned36 {base R : Nat} {ws : List Int} {own : Bool} {ch : List (Int × Int)} {vw vc : Value} (w : World) (h : Run w base R ws own ch vw vc) :
    Calls Try.prog 36 #[.pointer (some ⟨R, 0, none⟩)] w fun e w' => e = .returned (.bool own) ∧ w' = w := by
  obtain ⟨c0, c1, c2, f0, f1, f2⟩ := h.cells
  clear h
  go_enter Try.func36, Try.ntmps36
  go_wp2
  go_ret
  exact ⟨rfl, rfl⟩

set_option maxHeartbeats 400000 in
theorem changed32 {base R : Nat} {ws : List Int} {own : Bool} {ch : List (Int × Int)} {vw vc : Value} (w : World) (h : Run w base R ws own ch vw vc) (hq : ch.length ≤ 8) :
    Calls Try.prog 32 #[.pointer (some ⟨R, 0, none⟩)] w fun e w' => ∃ v', e = .returned v' ∧ Prs w' v' ch ∧ Below w.heap.size w w' := by
  obtain ⟨c0, c1, c2, f0, f1, f2⟩ := h.cells
  have hp : Prs w vc ch := Prs.ofOwn h.chg
  obtain ⟨ac, cc, rfl, _, _, _⟩ := own_form h.chg
  clear h
  go_enter Try.func32, Try.ntmps32
  go_wp2_with fail
  refine (copy51 _ (by omega) hp).mono ?_
  rintro e w1 ⟨v1, rfl, p1, b1⟩
  go_wp2
  go_ret
  exact ⟨_, rfl, p1, b1⟩

set_option maxHeartbeats 400000 in
theorem new28 {base : Nat} {ws : List Int} {v : Value} (own : Bool) (w : World) (hb : base ≤ w.heap.size) (h : w.ownsRow base 29 1 v ws.length (u64s ws)) :
    Calls Try.prog 28 #[v, .bool own] w fun e w' => ∃ R, e = .returned (.pointer (some ⟨R, 0, none⟩)) ∧ Run w' base R ws own [] v (.slice none 0 0) ∧ Below w.heap.size w w' := by
  have HW : Hid _ := h
  obtain ⟨aw, cw, rfl, _, _, _⟩ := own_form h
  clear h
  go_enter Try.func28, Try.ntmps28
  go_wp2
  go_ret
  refine ⟨w.heap.size, rfl, ⟨?_, hb, own_below HW.out ((Below.refl _ _).alloc (Nat.le_refl _) _), World.ownsRow_nil _ _ _ _⟩, (Below.refl _ _).alloc (Nat.le_refl _) _⟩
  exact heap_alloc_new w _

end Go.Proofs.Qxb6600021a
