/-
  A slice of structs (edges, marks) that came in, opened.
-/
import Derived.Test.Qxb6600021aRows
import Derived.Test.Qxb6600021aF1
import Derived.ProofKit
import Derived.OpenShut
import Derived.ShutString
import Derived.ChangeOld
import Derived.Deep.Slices
import Derived.ChangeSame
namespace Go.Proofs.Qxb6600021a
open Go.ChangeShapes Go.WideShapes Go.ChangeAt Go.RowKit
set_option linter.unusedVariables false

theorem own3 : ownKnob Try.prog.godebug = none := by kernel_rfl
theorem laidOut3 : laidOutB Try.prog = true := by kernel_rfl

theorem open_rw {α : Type} [Inhabited α] {c : α → List Value} {sz : Nat} (hc : ∀ a, (c a).length = sz) (hsz : 0 < sz) {ok : α → Prop} {H : Type} {enc : TypeId × Value → H} {W : World} {base fuel : Nat} {a : Option Addr} {len cap : Nat} {x : DataW H × List MemPlace} {t e : TypeId}
    (ht : Try.prog.underlying t = some (.slice e)) (hce : Try.prog.cellsOf e = sz)
    (hel : ∀ n cs y, DataW.trod enc Try.prog W base (fun _ => true) true n e cs = some y → ∃ q, cs = c q ∧ ok q)
    (hf : DataW.trod enc Try.prog W base (fun _ => true) true fuel t [.slice a len cap] = some x) : ∃ L, Rw c sz W (.slice a len cap) L ∧ ∀ y ∈ L, ok y := by
  rcases Go.Deep.open_slice ht hf with ⟨hcs, _⟩ | ⟨a', len', cap', m, n, D, Pl, hcs, _, hl, hm, hmm, _, hx⟩
  · simp at hcs
    obtain ⟨rfl, rfl, rfl⟩ := hcs
    exact ⟨[], Rd.nil _ sz, fun p hp => by cases hp⟩
  · simp at hcs
    obtain ⟨rfl, rfl, rfl⟩ := hcs
    have hmc : m = cap := by simpa using hmm
    subst hmc
    have each : ∀ i, i < m → ∃ q : α, (∀ j, j < sz → W.cell? (a'.add (i * sz + j)) = (c q)[j]?) ∧ ok q := by
      intro i hi
      obtain ⟨cs', h1, h2⟩ := hx i hi
      rw [hce] at h1
      obtain ⟨_, hlen, hcell⟩ := World.cells?_some h1
      obtain ⟨q, rfl, hq⟩ := hel _ _ _ h2
      exact ⟨q, fun j hj => by rw [← Go.Deep.add_add]; exact hcell j hj, hq⟩
    obtain ⟨q, hq⟩ := Go.Deep.choose_lt each
    have hLl : ((List.range len).map q).length = len := by simp
    refine ⟨(List.range len).map q, ?_, ?_⟩
    · show Rd W _ ((List.range len).map q).length sz _
      rw [hLl]
      refine ⟨some a', m, rfl, hl, hm, (fun h => by cases h), by rw [flat_length hc, hLl], fun hpos => ?_⟩
      obtain ⟨b, off, spot⟩ := a'
      obtain ⟨v0, hv0⟩ : ∃ v, (c (q 0))[0]? = some v := ⟨_, List.getElem?_eq_getElem (by rw [hc]; exact hsz)⟩
      have hc0 := (hq 0 (by omega)).1 0 hsz
      rw [hv0] at hc0
      have hspot : spot = none := by simpa [Addr.add] using World.cell?_spot hc0
      subst hspot
      refine ⟨b, off, rfl, ?_, fun j hj => ?_⟩
      · exact World.block_lt_of_cell? W _ (by simpa [Addr.add_lit] using hc0)
      · have hj2 : j = (j / sz) * sz + j % sz := by rw [Nat.mul_comm]; exact (Nat.div_add_mod j sz).symm
        have hi : j / sz < len := (Nat.div_lt_iff_lt_mul hsz).2 hj
        have hr : j % sz < sz := Nat.mod_lt _ hsz
        have h1 := (hq (j / sz) (by omega)).1 (j % sz) hr
        have h2 := flat_at hc (q 0) ((List.range len).map q) (j / sz) (j % sz) (by rw [hLl]; exact hi) hr
        rw [← hj2] at h1 h2
        rw [Addr.add_lit] at h1
        rw [h1, h2]
        simp [List.getD, hi]
    · intro p hp
      obtain ⟨i, hi, rfl⟩ := List.mem_map.1 hp
      exact (hq i (by have := List.mem_range.1 hi; omega)).2

theorem cells69 : Try.prog.cellsOf 69 = 3 := by kernel_rfl
theorem cells91 : Try.prog.cellsOf 91 = 6 := by kernel_rfl
theorem cells93 : Try.prog.cellsOf 93 = 4 := by kernel_rfl

set_option maxRecDepth 100000 in
theorem open_cel {H : Type} {enc : TypeId × Value → H} {W : World} {base n : Nat} {cs : List Value} {y : DataW H × List MemPlace}
    (h : DataW.trod enc Try.prog W base (fun _ => true) true n 69 cs = some y) : ∃ q : Cel, cs = cl q ∧ q.ok := by
  obtain ⟨xs, k, hk, hxy, hlen, hxl, hf⟩ := DataW.trod_struct Try.underlying69 h
  rw [cells69] at hlen
  match xs, hxl, cs, hlen with
  | [y0, y1, y2], _, [v0, v1, v2], _ =>
    have g0 := hf 0 _ rfl
    have g1 := hf 1 _ rfl
    have g2 := hf 2 _ rfl
    simp [cells3', cells4'] at g0 g1 g2
    obtain ⟨x, e0, _, w0⟩ := DataW.trod_int Try.underlying3 g0
    obtain ⟨x1, e1, _, w1⟩ := DataW.trod_int Try.underlying3 g1
    obtain ⟨x2, e2, _⟩ := DataW.trod_bool Try.underlying4 g2
    simp at e0 e1 e2
    subst e0 e1 e2
    exact ⟨⟨x, x1, x2⟩, rfl, w0, w1⟩

set_option maxRecDepth 100000 in
theorem open_edge {H : Type} {enc : TypeId × Value → H} {W : World} {base n : Nat} {cs : List Value} {y : DataW H × List MemPlace}
    (h : DataW.trod enc Try.prog W base (fun _ => true) true n 91 cs = some y) : ∃ q : Edge, cs = ec q ∧ q.1.ok ∧ q.2.ok := by
  obtain ⟨xs, k, hk, hxy, hlen, hxl, hf⟩ := DataW.trod_struct Try.underlying91 h
  rw [cells91] at hlen
  match xs, hxl, cs, hlen with
  | [y0, y1], _, [v0, v1, v2, v3, v4, v5], _ =>
    have g0 := hf 0 _ rfl
    have g1 := hf 1 _ rfl
    simp [cells69] at g0 g1
    obtain ⟨a, e0, ka⟩ := open_cel g0
    obtain ⟨b, e1, kb⟩ := open_cel g1
    simp [cl] at e0 e1
    obtain ⟨rfl, rfl, rfl⟩ := e0
    obtain ⟨rfl, rfl, rfl⟩ := e1
    exact ⟨(a, b), rfl, ka, kb⟩

set_option maxRecDepth 100000 in
theorem open_mark {H : Type} {enc : TypeId × Value → H} {W : World} {base n : Nat} {cs : List Value} {y : DataW H × List MemPlace}
    (h : DataW.trod enc Try.prog W base (fun _ => true) true n 93 cs = some y) : ∃ q : Mark, cs = mc q ∧ q.1.ok ∧ (Lit.int .i64 q.2).wf = true := by
  obtain ⟨xs, k, hk, hxy, hlen, hxl, hf⟩ := DataW.trod_struct Try.underlying93 h
  rw [cells93] at hlen
  match xs, hxl, cs, hlen with
  | [y0, y1], _, [v0, v1, v2, v3], _ =>
    have g0 := hf 0 _ rfl
    have g1 := hf 1 _ rfl
    simp [cells69, cells3'] at g0 g1
    obtain ⟨a, e0, ka⟩ := open_cel g0
    obtain ⟨x, e1, _, wx⟩ := DataW.trod_int Try.underlying3 g1
    simp [cl] at e0 e1
    obtain ⟨rfl, rfl, rfl⟩ := e0
    subst e1
    exact ⟨(a, x), rfl, ka, wx⟩

instance : Inhabited Cel := ⟨c0⟩

theorem open_egs {H : Type} {enc : TypeId × Value → H} {W : World} {base fuel : Nat} {a : Option Addr} {len cap : Nat} {x : DataW H × List MemPlace}
    (hf : DataW.trod enc Try.prog W base (fun _ => true) true fuel 55 [.slice a len cap] = some x) : ∃ L, Egs W (.slice a len cap) L ∧ ∀ y ∈ L, y.1.ok ∧ y.2.ok :=
  open_rw ec_length (by omega) Try.underlying55 cells91 (fun n cs y h => open_edge h) hf
theorem open_mks {H : Type} {enc : TypeId × Value → H} {W : World} {base fuel : Nat} {a : Option Addr} {len cap : Nat} {x : DataW H × List MemPlace}
    (hf : DataW.trod enc Try.prog W base (fun _ => true) true fuel 56 [.slice a len cap] = some x) : ∃ L, Mks W (.slice a len cap) L ∧ ∀ y ∈ L, y.1.ok ∧ (Lit.int .i64 y.2).wf = true :=
  open_rw mc_length (by omega) Try.underlying56 cells93 (fun n cs y h => open_mark h) hf

end Go.Proofs.Qxb6600021a
