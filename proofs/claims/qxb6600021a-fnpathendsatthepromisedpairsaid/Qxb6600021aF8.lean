/-
  FnPathEndsAtThePromisedPair (9): the walk.
-/
import Derived.Test.Qxb6600021aF7
namespace Go.Proofs.Qxb6600021a
open Go.RowKit
set_option linter.unusedVariables false

theorem okL_of {L : List Edge} (h : ∀ y ∈ L, y.1.ok ∧ y.2.ok) : OkL L := by
  intro i
  unfold ke bk
  by_cases hi : i < L.length
  · exact h _ (getD_mem L i (c0, c0) hi)
  · have : L.getD i (c0, c0) = (c0, c0) := by simp [List.getD, show L.length ≤ i by omega]
    rw [this]
    exact ⟨ok0, ok0⟩
theorem okM_of {M : List Mark} (h : ∀ y ∈ M, y.1.ok ∧ (Lit.int .i64 y.2).wf = true) : ∀ i, (ma M i).ok := by
  intro i
  unfold ma
  by_cases hi : i < M.length
  · exact (h _ (getD_mem M i (c0, 0) hi)).1
  · have : M.getD i (c0, 0) = (c0, 0) := by simp [List.getD, show M.length ≤ i by omega]
    rw [this]
    exact ok0
theorem eqs69 (w : World) (c : Cel) : (binOp .eql 69 (.agg #[.int .i64 c.f, .int .i64 c.t, .bool c.m]) (.agg #[.int .i64 c.f, .int .i64 c.t, .bool c.m])).run Try.prog w = .ok (.bool true) w := by
  have := eq69 w c c
  rw [decide_eq_true rfl] at this
  exact this

theorem box69 {X w9 : World} {N : Nat} {c : Cel} (b9 : Below X.heap.size X w9) (hX : X.heap[N]? = some (.cells #[.int .i64 c.f, .int .i64 c.t, .bool c.m] 69 (0, 0))) :
    w9.cell? ⟨N, 0, none⟩ = some (.int .i64 c.f) ∧ w9.cell? ⟨N, 1, none⟩ = some (.int .i64 c.t) ∧ w9.cell? ⟨N, 2, none⟩ = some (.bool c.m) := by
  have h9 := (b9.block N (Array.getElem?_eq_some_iff.1 hX).1).trans hX
  refine ⟨?_, ?_, ?_⟩
  · rw [cell_of_row w9 N 0 _ 69 (0, 0) h9]; rfl
  · rw [cell_of_row w9 N 1 _ 69 (0, 0) h9]; rfl
  · rw [cell_of_row w9 N 2 _ 69 (0, 0) h9]; rfl
theorem below_via {w X w9 : World} (h : Below w.heap.size w X) (b : Below X.drew.heap.size X.drew w9) : Below w.heap.size w w9 := h.drew.trans (b.mono h.size)

set_option maxHeartbeats 2000000 in
set_option maxRecDepth 100000 in
theorem law9 {v0 v1 : Value} {L : List Edge} {M : List Mark} (fr tt : Int) (pre : Bool) (w : World) (g0 : Egs w v0 L) (g1 : Mks w v1 M) (k0 : ∀ y ∈ L, y.1.ok ∧ y.2.ok) (k1 : ∀ y ∈ M, y.1.ok ∧ (Lit.int .i64 y.2).wf = true)
    (wfr : (Lit.int .i64 fr).wf = true) (wtt : (Lit.int .i64 tt).wf = true) :
    Calls Try.prog 9 #[v0, v1, .int .i64 fr, .int .i64 tt, .bool pre] w fun e w' => e = .returned (.bool true) ∧ Below w.heap.size w w' := by
  have bt : -9223372036854775808 ≤ tt ∧ tt ≤ 9223372036854775807 := by
    have e1 : IntKind.i64.min = -9223372036854775808 := rfl
    have e2 : IntKind.i64.max = 9223372036854775807 := rfl
    simp [Lit.wf, e1, e2] at wtt
    exact wtt
  have HOk := hide (okL_of k0)
  have HMk := hide (okM_of k1)
  obtain ⟨a0, n0, q0, rfl, hN0, _, hM0, hf0⟩ := Egs.form g0
  obtain ⟨a1, n1, q1, rfl, hN1, _, hM1, hf1⟩ := Mks.form g1
  have H0 := hide hN0
  have H1 := hide hN1
  have z37 := zzb37 a0 a1 n0 n1 q0 q1 fr tt pre w hM0 hM1
  unfold maxLen at hM0 hM1
  clear hN0 hN1 hf0 hf1 k0 k1 wfr wtt
  by_cases hsum : n0 + n1 ≤ 1048576
  · rw [decide_eq_true hsum] at z37
    by_cases h0 : n0 ≤ 4096
    · have e0 : decide ((4096 : Int) < (n0 : Int)) = false := decide_eq_false (by omega)
      by_cases h1 : n1 ≤ 4096
      · have e1 : decide ((4096 : Int) < (n1 : Int)) = false := decide_eq_false (by omega)
        by_cases h2 : 48 * n0 + 32 * n1 ≤ 1048576
        · have e2 : decide ((1048576 : Int) < 48 * (n0 : Int) + 32 * (n1 : Int)) = false := decide_eq_false (by omega)
          by_cases h3 : tt ≤ 65536
          · have e3 : decide ((65536 : Int) < tt) = false := decide_eq_false (by omega)
            have c38 := chains38 w g0 (by rw [← H0.out]; exact h0)
            go_enter Try.func9, Try.ntmps9
            go_wp2_with (go_at_call 37; refine z37.mono ?_; rintro e w1 ⟨rfl, rfl⟩)
            refine c38.mono ?_
            rintro e w2 ⟨b, rfl, hch, b2⟩
            clear c38 z37
            cases b with
            | false =>
              clear hch
              go_wp2
              go_ret
              exact ⟨by trivial, b2⟩
            | true =>
              have HCh := hide (hch rfl)
              clear hch
              go_wp2_with fail
              refine (clone39 _ (by rw [← H0.out]; omega) (g0.below b2)).mono ?_
              rintro e w3 ⟨u0, rfl, p0, b3⟩
              have B3 := b2.trans (b3.mono b2.size)
              go_wp2_with fail
              refine (clone40 _ (by rw [← H1.out]; omega) (g1.below B3)).mono ?_
              rintro e w4 ⟨u1, rfl, p1, b4⟩
              have B4 := B3.trans (b4.mono B3.size)
              have P0 := hide (p0.below b4)
              have P1 := hide p1
              clear p0 p1 b2 b3 b4 B3 g0 g1
              go_wp2_with fail
              refine (zz42 _ (by rw [← H0.out]; omega) P0.out).mono ?_
              rintro e w5 ⟨x0, rfl, r0, b5⟩
              have B5 := B4.trans (b5.mono B4.size)
              go_wp2_with fail
              refine (zz43 _ (by rw [← H1.out]; omega) (P1.out.below b5)).mono ?_
              rintro e w6 ⟨x1, rfl, r1, b6⟩
              have B6 := B5.trans (b6.mono B5.size)
              obtain ⟨F, hF⟩ : ∃ F, wrap64 (fr - 1) = F := ⟨_, rfl⟩
              obtain ⟨T1, hT⟩ : ∃ T1, wrap64 (tt - 1) = T1 := ⟨_, rfl⟩
              have c41 := path41 fr tt F T1 pre w6 (r0.below b6) r1 HCh.out HOk.out HMk.out (by rw [← H0.out]; exact h0) (by rw [← H1.out]; exact h1) hF hT ⟨by omega, h3⟩
              have PE := hide ((P0.out.below b5).below b6)
              have HF := hide hF
              have HT := hide hT
              clear r0 r1 P0 P1 b5 b6 B4 B5 hF hT
              go_wp2_with fail
              refine c41.mono ?_
              rintro e w7 ⟨v7, rfl, b7, hz⟩
              clear c41
              have B7 := B6.trans (b7.mono B6.size)
              have c44 := end44 fr tt F T1 pre w7 (PE.out.below b7) (by rw [← H0.out]; exact h0) HF.out HT.out ⟨by omega, h3⟩
              clear PE b7 B6
              rcases hz with ⟨hpe, rfl⟩ | ⟨c, gm, n, cap, hpe, rfl, hn98, hgm, y0, y1, y2⟩
              · rw [hpe] at c44
                clear hpe
                go_wp2_with fail
                refine c44.mono ?_
                rintro e w8 ⟨rfl, b8⟩
                simp only [Option.getD_none, Option.isSome_none]
                clear c44
                go_wp2
                go_ret
                exact ⟨by trivial, (B7.trans (b8.mono B7.size)).alloc (B7.trans (b8.mono B7.size)).size _⟩
              · rw [hpe] at c44
                obtain ⟨N, hN⟩ : ∃ N, N = n + 1 := ⟨_, rfl⟩
                rw [← hN]
                have hn98 : N ≤ 4098 := by omega
                have e8 : (N : Int) - 1 = (n : Int) := by omega
                have hnN : n < N := by omega
                have e6 : IntKind.i64.wrap (n : Int) = (n : Int) := by rw [IntKind.wrap_i64]; omega
                have e7 : ((N : Int) == 0) = false := by rw [beq_eq_false_iff_ne]; omega
                clear hpe hN
                go_wp2_with fail
                refine c44.mono ?_
                rintro e w8 ⟨rfl, b8⟩
                simp only [Option.getD_some, Option.isSome_some]
                clear c44
                have B8 := B7.trans (b8.mono B7.size)
                have y0 := (b8.cell (p := ⟨gm, n * 5, none⟩) hgm).trans y0
                have y1 := (b8.cell (p := ⟨gm, n * 5 + 1, none⟩) hgm).trans y1
                have y2 := (b8.cell (p := ⟨gm, n * 5 + 2, none⟩) hgm).trans y2
                have hgm := Nat.lt_of_lt_of_le hgm b8.size
                have hq := eqs69
                clear b8 B7
                go_upto_region 21 with fail
                go_region_with (go_at_call 45; refine Calls.mono (cel45 _ _) ?_; rintro e w9 ⟨rfl, b9⟩; obtain ⟨x0, x1, x2⟩ := box69 (c := c) b9 (heap_alloc_new w8 _); have B9 := below_via (B8.alloc B8.size _) b9)
                all_goals
                  go_wp2_with fail
                  go_ret
                  exact ⟨by trivial, B9⟩
          · go_enter Try.func9, Try.ntmps9
            go_wp2_with (go_at_call 37; refine z37.mono ?_; rintro e w1 ⟨rfl, rfl⟩)
            go_ret
            exact ⟨rfl, Below.refl _ _⟩
        · have e2 : decide ((1048576 : Int) < 48 * (n0 : Int) + 32 * (n1 : Int)) = true := decide_eq_true (by omega)
          go_enter Try.func9, Try.ntmps9
          go_wp2_with (go_at_call 37; refine z37.mono ?_; rintro e w1 ⟨rfl, rfl⟩)
          go_ret
          exact ⟨rfl, Below.refl _ _⟩
      · go_enter Try.func9, Try.ntmps9
        go_wp2_with (go_at_call 37; refine z37.mono ?_; rintro e w1 ⟨rfl, rfl⟩)
        go_ret
        exact ⟨rfl, Below.refl _ _⟩
    · go_enter Try.func9, Try.ntmps9
      go_wp2_with (go_at_call 37; refine z37.mono ?_; rintro e w1 ⟨rfl, rfl⟩)
      go_ret
      exact ⟨rfl, Below.refl _ _⟩
  · rw [decide_eq_false hsum] at z37
    go_enter Try.func9, Try.ntmps9
    go_wp2_with (go_at_call 37; refine z37.mono ?_; rintro e w1 ⟨rfl, rfl⟩)
    go_ret
    exact ⟨rfl, Below.refl _ _⟩

end Go.Proofs.Qxb6600021a
