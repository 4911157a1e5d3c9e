/-
  FnAddAgreesWithOrModel: the row.
-/
import Derived.Test.Qxb6600021aC6
import Derived.Test.Qxb6600021aR16
import Derived.Test.Qxb6600021aOpen2
namespace Go.Proofs.Qxb6600021a
open Go.ChangeShapes Go.WideShapes Go.ChangeAt Go.RowKit
set_option linter.unusedVariables false

set_option maxRecDepth 100000 in
theorem lifted6 (os : Os) (started : os.Started) (H : Type) (enc : TypeId × Value → H) :
    ReturnsInHanded {} Try.checked os 6 .any (Rows.fnAddAgreesWithOrModelSpec.pre6 enc Try.prog Try.f6 Rows.fnAddAgreesWithOrModelRow.domain false) (Rows.fnAddAgreesWithOrModelSpec.post enc Try.prog Try.f6 false true false false) := by
  refine returnsInHanded_of_change (C := Try.checked) own2 started (by kernel_rfl) Try.func6
    (ChangeSpec.witness6 (enc := enc) (C := Try.checked) false ⟨#[], #[.slice none 0 0, .bool false, .slice none 0 0, .slice none 0 0], []⟩ 8 (by kernel_rfl) (by kernel_rfl) (by kernel_rfl) (by kernel_rfl)) ?_
  intro W base args ds gs before hval0 hW hcnd _
  have hval : ∀ (j : Nat) t v, Try.f6.params[j]? = some t → args[j]? = some v → Value.okWide Try.prog W .any base t v := hval0
  have hW' := hW
  obtain ⟨p, q, hA0, hV, rfl, hfz, hnd⟩ := hW
  have hA : DataW.TrodAll enc Try.prog W 0 (fun _ => true) true Try.f6.params.toList args.toList ds p := hA0
  rw [Try.params6] at hA hval
  obtain ⟨v0, vs0, d0, ds0, p0, q0, hargs, rfl, rfl, h0, r0⟩ := trodAll_cons hA
  obtain ⟨v1, vs1, d1, ds1, p1, q1, rfl, rfl, rfl, h1, r1⟩ := trodAll_cons r0
  obtain ⟨v2, vs2, d2, ds2, p2, q2, rfl, rfl, rfl, h2, r2⟩ := trodAll_cons r1
  obtain ⟨v3, vs3, d3, ds3, p3, q3, rfl, rfl, rfl, h3, r3⟩ := trodAll_cons r2
  obtain ⟨rfl, rfl, rfl⟩ := trodAll_nil r3
  obtain rfl : args = #[v0, v1, v2, v3] := by cases args; simp_all
  obtain ⟨rfl, rfl⟩ := trodVars_none hV
  obtain ⟨a0, len0, cap0, rfl⟩ := okWide_slice Try.underlying38 (hval 0 38 v0 rfl rfl)
  have k0 := h0
  have lt0 : ∀ x ∈ p0, x.block < W.heap.size := by obtain ⟨m, hm⟩ := k0; exact DataW.trod_lt m _ _ _ hm
  obtain ⟨ws, g0, w0⟩ : ∃ ns, Ns .u64 W (.slice a0 len0 cap0) ns ∧ ∀ z ∈ ns, (Lit.int .u64 z).wf = true := by
    obtain ⟨fuel, hf⟩ := h0
    exact open_ns Try.underlying38 Try.underlying29 (by kernel_rfl) (by simpa [Value.cells] using hf)
  obtain ⟨a1, rfl, rfl, rfl⟩ := open_bool Try.underlying4 (hval 1 4 v1 rfl rfl) h1
  obtain ⟨a2, len2, cap2, rfl⟩ := okWide_slice Try.underlying39 (hval 2 39 v2 rfl rfl)
  have k2 := h2
  have lt2 : ∀ x ∈ p2, x.block < W.heap.size := by obtain ⟨m, hm⟩ := k2; exact DataW.trod_lt m _ _ _ hm
  obtain ⟨is, g2, w2⟩ : ∃ ns, Ns .i64 W (.slice a2 len2 cap2) ns ∧ ∀ z ∈ ns, (Lit.int .i64 z).wf = true := by
    obtain ⟨fuel, hf⟩ := h2
    exact open_ns Try.underlying39 Try.underlying3 (by kernel_rfl) (by simpa [Value.cells] using hf)
  obtain ⟨a3, len3, cap3, rfl⟩ := okWide_slice Try.underlying38 (hval 3 38 v3 rfl rfl)
  have k3 := h3
  have lt3 : ∀ x ∈ p3, x.block < W.heap.size := by obtain ⟨m, hm⟩ := k3; exact DataW.trod_lt m _ _ _ hm
  obtain ⟨bs, g3, w3⟩ : ∃ ns, Ns .u64 W (.slice a3 len3 cap3) ns ∧ ∀ z ∈ ns, (Lit.int .u64 z).wf = true := by
    obtain ⟨fuel, hf⟩ := h3
    exact open_ns Try.underlying38 Try.underlying29 (by kernel_rfl) (by simpa [Value.cells] using hf)
  clear hA0 hval0
  refine (law6 a1 W g0 g2 g3 w0 w3).mono fun e W' ⟨he, bel⟩ => ?_
  subst he
  exact ⟨_, rfl, _, _, _, [], _, [], hW', trodAll_mk1 (shut_bool Try.underlying4 _), (trodAll_cons_mk (Below.trod laidOut2 (by kernel_rfl) (of_decide_eq_true (by kernel_rfl)) k0 bel lt0) (trodAll_cons_mk (shut_bool Try.underlying4 _) (trodAll_cons_mk (Below.trod laidOut2 (by kernel_rfl) (of_decide_eq_true (by kernel_rfl)) k2 bel lt2) (trodAll_cons_mk (Below.trod laidOut2 (by kernel_rfl) (of_decide_eq_true (by kernel_rfl)) k3 bel lt3) trodAll_mk0)))), rfl, bel.frame _, fun h => by cases h⟩

theorem over6 : Rows.fnAddAgreesWithOrModelRow.holds Try.pinned (OpenSpec.ofChange Rows.fnAddAgreesWithOrModelSpec) :=
  OpenClaim.holds_of_wide 6 Try.f6 rfl rfl rfl rfl rfl rfl rfl ⟨rfl, rfl, rfl, rfl, rfl⟩ rfl rfl rfl rfl rfl named6 Try.func6 closed6 inst6 wrap6
    (fun os started H enc _ => lifted6 os started H enc)

theorem proved6 : Rows.FnAddAgreesWithOrModelSaid := over6
end Go.Proofs.Qxb6600021a
