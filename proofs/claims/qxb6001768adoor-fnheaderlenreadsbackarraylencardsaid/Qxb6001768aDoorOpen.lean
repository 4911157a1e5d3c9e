/-
  A slice of bytes that came in, opened.
-/
import Derived.Test.Qxb6001768aDoorRows
import Derived.Test.Qxb6001768aDoorBase
import Derived.ProofKit
import Derived.OpenShut
import Derived.ShutString
import Derived.ChangeOld
namespace Go.Proofs.Qxb6001768aDoor
open Go.ChangeShapes Go.WideShapes Go.ChangeAt Go.RowKit
set_option linter.unusedVariables false

theorem byt_of {zs : List Int} {len i : Nat} (hi : i < (zs.take len).length) (h : (Lit.int .u8 (zs.getD i 0)).wf = true) : byt ((zs.take len).map (fun z => UInt8.ofNat z.toNat)) i = zs.getD i 0 := by
  have hi2 : i < len ∧ i < zs.length := by rw [List.length_take] at hi; omega
  have e1 : IntKind.u8.min = 0 := rfl
  have e2 : IntKind.u8.max = 255 := rfl
  simp [Lit.wf, e1, e2, List.getD, hi2.2] at h
  simp [byt, List.getD, hi2.1, hi2.2]
  omega

theorem open_bs {H : Type} {enc : TypeId × Value → H} {W : World} {base fuel : Nat} {a : Option Addr} {len cap : Nat} {x : DataW H × List MemPlace}
    (hf : DataW.trod enc Tryd.prog W base (fun _ => true) true fuel 22 [.slice a len cap] = some x) : ∃ l, Bs W (.slice a len cap) l := by
  rcases open_ints Tryd.underlying22 Tryd.underlying5 (by kernel_rfl) hf with ⟨hcs, _⟩ | ⟨x, l, c, zs, hcs, _, hl, hm, hz, _, hcell, hwz⟩
  · simp at hcs
    obtain ⟨rfl, rfl, rfl⟩ := hcs
    exact ⟨[], Bs.nil _⟩
  · simp at hcs
    obtain ⟨rfl, rfl, rfl⟩ := hcs
    have hz' : zs.length = cap := by simpa using hz
    have hTl : (zs.take len).length = len := by rw [List.length_take]; omega
    have hLl : ((zs.take len).map (fun z => UInt8.ofNat z.toNat)).length = len := by rw [List.length_map, hTl]
    refine ⟨(zs.take len).map (fun z => UInt8.ofNat z.toNat), some x, cap, by rw [hLl], by rw [hLl]; exact hl, hm, (fun h => by cases h), fun hpos => ?_⟩
    rw [hLl] at hpos ⊢
    obtain ⟨b, off, spot⟩ := x
    have hc0 := hcell 0 (by omega)
    have hspot : spot = none := by simpa [Addr.add] using World.cell?_spot hc0
    subst hspot
    refine ⟨b, off, rfl, World.block_lt_of_cell? W _ (by simpa [Addr.add_lit] using hc0), fun j hj => ?_⟩
    have h1 := hcell j (by omega)
    rw [Addr.add_lit] at h1
    have hg : zs.getD j 0 ∈ zs := by
      simp only [List.getD, List.getElem?_eq_getElem (show j < zs.length by omega), Option.getD_some]
      exact List.getElem_mem _
    rw [h1, byt_of (by rw [hTl]; exact hj) (hwz _ hg)]

end Go.Proofs.Qxb6001768aDoor
