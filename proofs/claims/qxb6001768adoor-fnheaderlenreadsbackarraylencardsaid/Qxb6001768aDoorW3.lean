/-
  FnHeaderLenAcceptsExactlySignedDecimalsInRange (3): the walk.
-/
import Derived.Test.Qxb6001768aDoorW2
namespace Go.Proofs.Qxb6001768aDoor
open Go.RowKit
set_option linter.unusedVariables false

theorem var_keep {P : Program} {w w' : World} {n : String} {cs : Array Value} (hb : Below w.heap.size w w') (h : w.var? P n = some cs) : w'.var? P n = some cs := by
  unfold World.var? at h ⊢
  cases hg : P.globalNamed n with
  | none => rw [hg] at h; cases h
  | some g =>
    rw [hg] at h
    simp only [Option.bind_some] at h ⊢
    cases hh : w.heap[g]? with
    | none => rw [hh] at h; cases h
    | some o =>
      rw [hb.block g (Array.getElem?_eq_some_iff.1 hh).1]
      exact h

set_option maxHeartbeats 1000000 in
theorem law3 {v : Value} {l : List UInt8} (lim : Int) (s : ByteArray) (w : World) (h : Bs w v l) (hs : s.size ≤ maxLen) (tp0 tp1 : TypeId) (p0 p1 : Value)
    (hv0 : w.var? Tryd.prog "strconv.ErrSyntax" = some #[.iface tp0 p0]) (hv1 : w.var? Tryd.prog "strconv.ErrRange" = some #[.iface tp1 p1]) :
    Calls Tryd.prog 3 #[v, .int .i64 lim, .string s] w fun e w' => e = .returned (.bool true) ∧ Below w.heap.size w w' := by
  have H := hide h
  have HV0 := hide hv0
  have HV1 := hide hv1
  obtain ⟨a, n, c, rfl, hn, x1, hM, x2⟩ := h.form
  have HN := hide hn
  have z5 := zzb5 a n c lim s w hM hs
  unfold maxLen at hM hs
  clear x1 x2 hn hv0 hv1 h
  by_cases hsum : n + s.size ≤ 1048576
  · rw [decide_eq_true hsum] at z5
    have e0 : decide ((1048576 : Int) < (n : Int)) = false := decide_eq_false (by omega)
    have e1 : decide ((1048576 : Int) < (s.size : Int)) = false := decide_eq_false (by omega)
    have e2 : decide ((1048576 : Int) < (n : Int) + (s.size : Int)) = false := decide_eq_false (by omega)
    by_cases h1 : lim < -1048576
    · go_enter Tryd.func3, Tryd.ntmps3
      go_wp2_with (go_at_call 5; refine z5.mono ?_; rintro e w1 ⟨rfl, rfl⟩)
      go_ret
      exact ⟨rfl, Below.refl _ _⟩
    · by_cases h2 : 1048576 < lim
      · go_enter Tryd.func3, Tryd.ntmps3
        go_wp2_with (go_at_call 5; refine z5.mono ?_; rintro e w1 ⟨rfl, rfl⟩)
        go_ret
        exact ⟨rfl, Below.refl _ _⟩
      · have hl : l.length ≤ 1048576 := by rw [← HN.out]; omega
        have c6 := clone6 w hl H.out
        have HL := hide hl
        clear hl
        go_enter Tryd.func3, Tryd.ntmps3
        go_wp2_with (go_at_call 5; refine z5.mono ?_; rintro e w1 ⟨rfl, rfl⟩)
        refine c6.mono ?_
        rintro e w2 ⟨v2, rfl, g2, b2⟩
        clear c6 z5
        have c7 := model7 lim w2 g2 HL.out ⟨by omega, by omega⟩
        go_wp2_with fail
        refine c7.mono ?_
        rintro e w3 ⟨rfl, b3⟩
        have B3 := b2.trans (b3.mono b2.size)
        have c8 := zz8 lim s w3 (g2.below b3) HL.out tp0 tp1 p0 p1 (var_keep B3 HV0.out) (var_keep B3 HV1.out)
        rw [hdr_mdl l lim (by omega)] at c8
        clear c7
        cases hR : mdl l lim with
        | some x =>
          rw [hR] at c8
          clear hR
          simp only [mres]
          go_wp2_with fail
          refine c8.mono ?_
          rintro e w4 ⟨rfl, b4⟩
          simp only [hres]
          go_wp2
          go_ret
          exact ⟨by trivial, B3.trans (b4.mono B3.size)⟩
        | none =>
          rw [hR] at c8
          clear hR
          simp only [mres]
          go_wp2_with fail
          refine c8.mono ?_
          rintro e w4 ⟨rfl, b4⟩
          simp only [hres]
          go_wp2
          go_ret
          exact ⟨by trivial, B3.trans (b4.mono B3.size)⟩
  · rw [decide_eq_false hsum] at z5
    go_enter Tryd.func3, Tryd.ntmps3
    go_wp2_with (go_at_call 5; refine z5.mono ?_; rintro e w1 ⟨rfl, rfl⟩)
    go_ret
    exact ⟨rfl, Below.refl _ _⟩

end Go.Proofs.Qxb6001768aDoor
