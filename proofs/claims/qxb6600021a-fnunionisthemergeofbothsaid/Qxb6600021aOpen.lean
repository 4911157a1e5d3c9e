/-
  A slice of words that came in, opened.
-/
import Derived.Test.Qxb6600021aRows
import Derived.Test.Qxb6600021aPlain
import Derived.ProofKit
import Derived.OpenShut
import Derived.ShutString
import Derived.ChangeOld
import Derived.Deep.SlicePairs
namespace Go.Proofs.Qxb6600021a
open Go.ChangeShapes Go.WideShapes Go.ChangeAt Go.RowKit
set_option linter.unusedVariables false

theorem own : ownKnob Try.prog.godebug = none := by kernel_rfl
theorem laidOut : laidOutB Try.prog = true := by kernel_rfl

/-- A slice of words that came in. -/
theorem open_prs {H : Type} {enc : TypeId × Value → H} {W : World} {base fuel : Nat} {a : Option Addr} {len cap : Nat} {x : DataW H × List MemPlace}
    (hf : DataW.trod enc Try.prog W base (fun _ => true) true fuel 22 [.slice a len cap] = some x) : ∃ L, Prs W (.slice a len cap) L ∧ Wf L := by
  rcases Go.Deep.open_slice_pairs Try.underlying22 Try.underlying35 (by kernel_rfl) (by kernel_rfl) (by kernel_rfl) (by kernel_rfl) (by kernel_rfl) hf with ⟨hcs, _⟩ | ⟨a', len', cap', m, n, V0, V1, D0, D1, P0, P1, hcs, _, hl, hm, hmm, _, hx⟩
  · simp at hcs
    obtain ⟨rfl, rfl, rfl⟩ := hcs
    exact ⟨[], Rd.nil _ 2, fun p hp => by cases hp⟩
  · simp at hcs
    obtain ⟨rfl, rfl, rfl⟩ := hcs
    have hmc : m = cap := by simpa using hmm
    subst hmc
    have each : ∀ i, i < m → ∃ q : Int × Int, (V0 i = .int .i64 q.1 ∧ V1 i = .int .u64 q.2) ∧ (Lit.int .i64 q.1).wf = true ∧ (Lit.int .u64 q.2).wf = true := by
      intro i hi
      obtain ⟨_, _, h2, h3⟩ := hx i hi
      obtain ⟨x, e0, _, w0⟩ := DataW.trod_int Try.underlying3 h2
      obtain ⟨y, e1, _, w1⟩ := DataW.trod_int Try.underlying29 h3
      exact ⟨(x, y), ⟨by simpa using e0, by simpa using e1⟩, w0, w1⟩
    obtain ⟨q, hq⟩ := Go.Deep.choose_lt each
    have hget : ∀ i, i < len → ((List.range len).map q).getD i (0, 0) = q i := fun i hi => by simp [List.getD, hi]
    have hLl : ((List.range len).map q).length = len := by simp
    refine ⟨(List.range len).map q, ?_, ?_⟩
    · show Rd W _ ((List.range len).map q).length 2 _
      rw [hLl]
      refine ⟨some a', m, rfl, hl, hm, (fun h => by cases h), by rw [cellsL_length, hLl], fun hpos => ?_⟩
      obtain ⟨b, off, spot⟩ := a'
      have hc0 := (hx 0 (by omega)).1
      have hspot : spot = none := by simpa [Addr.add] using World.cell?_spot hc0
      subst hspot
      refine ⟨b, off, rfl, ?_, fun j hj => ?_⟩
      · exact World.block_lt_of_cell? W _ (by simpa [Addr.add_lit] using hc0)
      · obtain ⟨i, hi, hj'⟩ : ∃ i, i < len ∧ (j = i * 2 ∨ j = i * 2 + 1) := ⟨j / 2, by omega, by omega⟩
        obtain ⟨h0, h1, _, _⟩ := hx i (by omega)
        obtain ⟨⟨e0, e1⟩, _, _⟩ := hq i (by omega)
        have hc := cellsL_ix ((List.range len).map q) i (by rw [hLl]; exact hi)
        rw [Addr.add_lit] at h0 h1
        unfold ix bt at hc
        rw [hget i hi] at hc
        rcases hj' with rfl | rfl
        · rw [h0, hc.1, e0]
        · rw [h1, hc.2, e1]
    · intro p hp
      obtain ⟨i, hi, rfl⟩ := List.mem_map.1 hp
      obtain ⟨_, w0, w1⟩ := hq i (by have := List.mem_range.1 hi; omega)
      have b0 := bounds_i64 w0
      have b1 := bounds_u64 w1
      exact ⟨by omega, by omega, by omega, by omega⟩

end Go.Proofs.Qxb6600021a
