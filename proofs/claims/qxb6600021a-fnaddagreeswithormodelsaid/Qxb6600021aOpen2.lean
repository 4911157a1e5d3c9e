/-
  A slice of integers that came in, opened.
-/
import Derived.Test.Qxb6600021aRows
import Derived.Test.Qxb6600021aR1
import Derived.ProofKit
import Derived.OpenShut
import Derived.ShutString
import Derived.ChangeOld
namespace Go.Proofs.Qxb6600021a
open Go.ChangeShapes Go.WideShapes Go.ChangeAt Go.RowKit
set_option linter.unusedVariables false

theorem own2 : ownKnob Try.prog.godebug = none := by kernel_rfl
theorem laidOut2 : laidOutB Try.prog = true := by kernel_rfl

theorem open_ns {H : Type} {enc : TypeId × Value → H} {W : World} {base fuel : Nat} {a : Option Addr} {len cap : Nat} {x : DataW H × List MemPlace} {t e : TypeId} {k : IntKind}
    (ht : Try.prog.underlying t = some (.slice e)) (he : Try.prog.underlying e = some (.int k)) (hc : Try.prog.cellsOf e = 1)
    (hf : DataW.trod enc Try.prog W base (fun _ => true) true fuel t [.slice a len cap] = some x) : ∃ ns, Ns k W (.slice a len cap) ns ∧ ∀ z ∈ ns, (Lit.int k z).wf = true := by
  rcases open_ints ht he hc hf with ⟨hcs, _⟩ | ⟨x, l, c, zs, hcs, _, hl, hm, hz, _, hcell, hwz⟩
  · simp at hcs
    obtain ⟨rfl, rfl, rfl⟩ := hcs
    exact ⟨[], Rd.nil _ 1, fun p hp => by cases hp⟩
  · simp at hcs
    obtain ⟨rfl, rfl, rfl⟩ := hcs
    have hz' : zs.length = cap := by simpa using hz
    have hLl : (zs.take len).length = len := by rw [List.length_take]; omega
    refine ⟨zs.take len, ?_, fun z hz2 => hwz z (List.mem_of_mem_take hz2)⟩
    show Rd W _ (zs.take len).length 1 _
    rw [hLl]
    refine ⟨some x, cap, rfl, hl, hm, (fun h => by cases h), by simp; omega, fun hpos => ?_⟩
    obtain ⟨b, off, spot⟩ := x
    have hc0 := hcell 0 (by omega)
    have hspot : spot = none := by simpa [Addr.add] using World.cell?_spot hc0
    subst hspot
    refine ⟨b, off, rfl, World.block_lt_of_cell? W _ (by simpa [Addr.add_lit] using hc0), fun j hj => ?_⟩
    have h1 := hcell j (by omega)
    rw [Addr.add_lit] at h1
    rw [h1]
    simp [show j < len by omega, List.getD, show j < zs.length by omega]

end Go.Proofs.Qxb6600021a
