/-
  (beliefSet).union (53).
-/
import Derived.Test.Qxb6600021aPlain
import Derived.Test.Qxb6600021aU2
namespace Go.Proofs.Qxb6600021a
open Go.RowKit
set_option linter.unusedVariables false

set_option maxHeartbeats 1000000 in
set_option maxRecDepth 100000 in
theorem union53_pos (b off c b2 off2 c2 n m : Nat) (L M : List (Int × Int)) (w : World) (hL : L.length = n) (hM : M.length = m) (hn0 : 0 < n) (hm0 : 0 < m) (hn : n ≤ 1048576) (hm : m ≤ 1048576) (hb : b < w.heap.size) (hb2 : b2 < w.heap.size)
    (hc : ∀ i, i < n → w.cell? ⟨b, off + i * 2, none⟩ = some (.int .i64 (ix L i))) (hd : ∀ i, i < n → w.cell? ⟨b, off + i * 2 + 1, none⟩ = some (.int .u64 (bt L i)))
    (hc2 : ∀ i, i < m → w.cell? ⟨b2, off2 + i * 2, none⟩ = some (.int .i64 (ix M i))) (hd2 : ∀ i, i < m → w.cell? ⟨b2, off2 + i * 2 + 1, none⟩ = some (.int .u64 (bt M i))) :
    Calls Try.prog 53 #[.slice (some ⟨b, off, none⟩) n c, .slice (some ⟨b2, off2, none⟩) m c2] w fun e w' => ∃ v, e = .returned v ∧ Prs w' v (uni L M) ∧ Below w.heap.size w w' := by
  obtain ⟨i0, hi, hz0, hz1, hz2⟩ := info_parts info118
  go_enter Try.func53, Try.ntmps53
  go_wp2_with (at_make; refine wpList_make_own _ rfl _ _ 83 rfl w.heap.size 118 i0 (.agg #[.int .i64 0, .int .u64 0]) 2 Try.underlying83 hi hz0 hz1 _ _ _ (n + m) rfl rfl (by omega) ?b2 ?b3 (Nat.le_refl _) ?_)
  case b2 => rw [hz2]; omega
  case b3 => unfold maxLen; omega
  intro w0 hown0 hgrow0
  go_wp2
  go_loopw [5, 6, 7] (fun o si sj wr => ∃ (i j p : Nat) (d : List (Int × Int)), i ≤ n ∧ j ≤ m ∧ p ≤ i + j ∧ d.length = p ∧ o = .slice (some ⟨w.heap.size, 0, none⟩) p (n + m) ∧ si = .int .i64 i ∧ sj = .int .i64 j ∧
      wr.ownsRow w.heap.size 118 2 (.slice (some ⟨w.heap.size, 0, none⟩) p (n + m)) p (cellsL d) ∧ d ++ uni (L.drop i) (M.drop j) = uni L M ∧ Below w.heap.size w wr)
    (fun _ si sj _ => (n - (intOf si).toNat) + (m - (intOf sj).toNat))
  case atStart => exact ⟨0, 0, 0, [], by omega, by omega, by omega, rfl, rfl, rfl, rfl, hown0, by simp, (Below.refl _ _).grown hgrow0 (Nat.le_refl _) (fun k h => by cases h)⟩
  case round =>
    obtain ⟨i, j, p, d, hin, hjm, hp, hdl, rfl, rfl, rfl, hown, hx, hbel⟩ := hrel
    have HX : Hid (d ++ uni (L.drop i) (M.drop j) = uni L M) := hx
    have HL : Hid (L.length = n) := hL
    have HM : Hid (M.length = m) := hM
    have HD : Hid (d.length = p) := hdl
    clear hx hL hM hdl
    have ca := fun h => (hbel.cell (p := ⟨b, off + i * 2, none⟩) (by exact hb)).trans (hc i h)
    have da := fun h => (hbel.cell (p := ⟨b, off + i * 2 + 1, none⟩) (by exact hb)).trans (hd i h)
    have cb := fun h => (hbel.cell (p := ⟨b2, off2 + j * 2, none⟩) (by exact hb2)).trans (hc2 j h)
    have db := fun h => (hbel.cell (p := ⟨b2, off2 + j * 2 + 1, none⟩) (by exact hb2)).trans (hd2 j h)
    clear hc hd hc2 hd2
    by_cases hi' : i < n
    · have ca := ca hi'
      have da := da hi'
      by_cases hj' : j < m
      · have cb := cb hj'
        have db := db hj'
        have t1 : ((j : Int) == (m : Int)) = false := beq_eq_false_iff_ne.2 (by omega)
        have t2 : ((i : Int) == (n : Int)) = false := beq_eq_false_iff_ne.2 (by omega)
        by_cases h1 : ix L i < ix M j
        · go_wp2
          go_quiet (fail)
          go_wp2_with (at_builtin; refine wpList_append_fits _ rfl (.tmp 55) (.tmp 60) 83 rfl w.heap.size 118 i0 2 Try.underlying83 hi hz1 w.heap.size p (n + m) _ rfl (hown.alloc _) ⟨wr.heap.size, 0, none⟩ 1 1 [.int .i64 (ix L i), .int .u64 (bt L i)] rfl rfl (new_two rfl _ _ _) two_oneCell (by omega) ?_)
          intro w1 hown1 hgrow1
          go_wp2
          go_roundw
          case rel => exact ⟨i + 1, j, p + 1, d ++ [(ix L i, bt L i)], by omega, by omega, by omega, by simp [HD.out], rfl, by go_num, rfl, by rw [cellsL_snoc]; exact hown1, step_left (by rw [HL.out]; exact hi') (by rw [HM.out]; exact hj') HX.out h1, grow_below hbel hgrow1⟩
          case measure => simp [intOf]; omega
        · have d1 : decide (ix L i < ix M j) = false := decide_eq_false h1
          by_cases h2 : ix M j < ix L i
          · go_wp2
            go_quiet (fail)
            go_wp2
            go_quiet (fail)
            go_wp2_with (at_builtin; refine wpList_append_fits _ rfl (.tmp 81) (.tmp 86) 83 rfl w.heap.size 118 i0 2 Try.underlying83 hi hz1 w.heap.size p (n + m) _ rfl (hown.alloc _) ⟨wr.heap.size, 0, none⟩ 1 1 [.int .i64 (ix M j), .int .u64 (bt M j)] rfl rfl (new_two rfl _ _ _) two_oneCell (by omega) ?_)
            intro w1 hown1 hgrow1
            go_wp2
            go_roundw
            case rel => exact ⟨i, j + 1, p + 1, d ++ [(ix M j, bt M j)], by omega, by omega, by omega, by simp [HD.out], rfl, rfl, by go_num, by rw [cellsL_snoc]; exact hown1, step_right (by rw [HL.out]; exact hi') (by rw [HM.out]; exact hj') HX.out h2, grow_below hbel hgrow1⟩
            case measure => simp [intOf]; omega
          · have d2 : decide (ix M j < ix L i) = false := decide_eq_false h2
            go_wp2
            go_quiet (fail)
            go_wp2
            go_quiet (fail)
            go_wp2
            go_region_law (refine step_append_fits rfl (.tmp 90) (.tmp 108) 83 rfl w.heap.size 118 i0 2 Try.underlying83 hi hz1 w.heap.size p (n + m) _ (by simp [Act.eval]) (hown.alloc _) ⟨wr.heap.size, 0, none⟩ 1 1 [.int .i64 (ix L i), .int .u64 (bits .or .u64 (bt L i) (bt M j))] (by simp [Act.eval]) rfl (new_two rfl _ _ _) two_oneCell (by omega) ?_; intro w1 hown1 hgrow1)
            all_goals
              go_wp2
              go_roundw
              case rel => exact ⟨i + 1, j + 1, p + 1, d ++ [(ix L i, orU (bt L i) (bt M j))], by omega, by omega, by omega, by simp [HD.out], rfl, by go_num, by go_num, by rw [cellsL_snoc]; exact hown1, step_both (by rw [HL.out]; exact hi') (by rw [HM.out]; exact hj') HX.out (by omega), grow_below hbel hgrow1⟩
              case measure => simp [intOf]; omega
      · have t1 : ((j : Int) == (m : Int)) = true := beq_iff_eq.2 (by omega)
        clear cb db
        go_wp2
        go_quiet (fail)
        go_wp2_with (at_builtin; refine wpList_append_fits _ rfl (.tmp 55) (.tmp 60) 83 rfl w.heap.size 118 i0 2 Try.underlying83 hi hz1 w.heap.size p (n + m) _ rfl (hown.alloc _) ⟨wr.heap.size, 0, none⟩ 1 1 [.int .i64 (ix L i), .int .u64 (bt L i)] rfl rfl (new_two rfl _ _ _) two_oneCell (by omega) ?_)
        intro w1 hown1 hgrow1
        go_wp2
        go_roundw
        case rel => exact ⟨i + 1, j, p + 1, d ++ [(ix L i, bt L i)], by omega, by omega, by omega, by simp [HD.out], rfl, by go_num, rfl, by rw [cellsL_snoc]; exact hown1, step_leftover (by rw [HL.out]; exact hi') (by rw [HM.out]; exact hj') HX.out, grow_below hbel hgrow1⟩
        case measure => simp [intOf]; omega
    · have t2 : ((i : Int) == (n : Int)) = true := beq_iff_eq.2 (by omega)
      have t3 : decide ((i : Int) < (n : Int)) = false := decide_eq_false (by omega)
      clear ca da
      by_cases hj' : j < m
      · have cb := cb hj'
        have db := db hj'
        have t1 : ((j : Int) == (m : Int)) = false := beq_eq_false_iff_ne.2 (by omega)
        go_wp2
        go_quiet (fail)
        go_wp2
        go_quiet (fail)
        go_wp2_with (at_builtin; refine wpList_append_fits _ rfl (.tmp 81) (.tmp 86) 83 rfl w.heap.size 118 i0 2 Try.underlying83 hi hz1 w.heap.size p (n + m) _ rfl (hown.alloc _) ⟨wr.heap.size, 0, none⟩ 1 1 [.int .i64 (ix M j), .int .u64 (bt M j)] rfl rfl (new_two rfl _ _ _) two_oneCell (by omega) ?_)
        intro w1 hown1 hgrow1
        go_wp2
        go_roundw
        case rel => exact ⟨i, j + 1, p + 1, d ++ [(ix M j, bt M j)], by omega, by omega, by omega, by simp [HD.out], rfl, rfl, by go_num, by rw [cellsL_snoc]; exact hown1, step_rightover (by rw [HL.out]; exact hi') (by rw [HM.out]; exact hj') HX.out, grow_below hbel hgrow1⟩
        case measure => simp [intOf]; omega
      · clear cb db
        go_wp2
        go_ret
        refine ⟨_, rfl, ?_, hbel⟩
        rw [← step_done (by rw [HL.out]; exact hi') (by rw [HM.out]; exact hj') HX.out]
        show Rd _ _ d.length 2 (cellsL d)
        rw [HD.out]
        exact Rd.own hown

set_option maxHeartbeats 400000 in
theorem union53_left (a : Option Addr) (c : Nat) (v : Value) (w : World) : Calls Try.prog 53 #[.slice a 0 c, v] w fun e w' => e = .returned v ∧ w' = w := by
  go_enter Try.func53, Try.ntmps53
  go_wp2
  go_ret
  exact ⟨rfl, rfl⟩

set_option maxHeartbeats 400000 in
theorem union53_right (a a2 : Option Addr) (n c c2 : Nat) (hn0 : 0 < n) (hn : n ≤ 1048576) (w : World) : Calls Try.prog 53 #[.slice a n c, .slice a2 0 c2] w fun e w' => e = .returned (.slice a n c) ∧ w' = w := by
  go_enter Try.func53, Try.ntmps53
  go_wp2
  go_ret
  exact ⟨rfl, rfl⟩

theorem union53 {v u : Value} {L M : List (Int × Int)} (w : World) (hs : L.length ≤ 1048576) (ht : M.length ≤ 1048576) (h : Prs w v L) (g : Prs w u M) :
    Calls Try.prog 53 #[v, u] w fun e w' => ∃ v', e = .returned v' ∧ Prs w' v' (uni L M) ∧ Below w.heap.size w w' := by
  have hleft : ∀ a c, v = .slice a 0 c → L = [] → Calls Try.prog 53 #[v, u] w fun e w' => ∃ v', e = .returned v' ∧ Prs w' v' (uni L M) ∧ Below w.heap.size w w' := by
    rintro a c rfl rfl
    exact (union53_left a c u w).mono fun e w' ⟨he, hw⟩ => ⟨_, he, hw ▸ g, hw ▸ Below.refl _ _⟩
  rcases h.cases with ⟨h1, h2⟩ | ⟨x, cap, h1, _, h2⟩ | ⟨b, off, cap, hn, rfl, h1, h2, hb, hc, hd⟩
  · exact hleft _ _ h2 h1
  · exact hleft _ _ h2 h1
  · have hright : ∀ a c, u = .slice a 0 c → M = [] → Calls Try.prog 53 #[.slice (some ⟨b, off, none⟩) L.length cap, u] w fun e w' => ∃ v', e = .returned v' ∧ Prs w' v' (uni L M) ∧ Below w.heap.size w w' := by
      rintro a c rfl rfl
      rw [uni_nil']
      exact (union53_right _ a _ _ c hn hs w).mono fun e w' ⟨he, hw⟩ => ⟨_, he, hw ▸ h, hw ▸ Below.refl _ _⟩
    rcases g.cases with ⟨g1, g2⟩ | ⟨x, cap2, g1, _, g2⟩ | ⟨b2, off2, cap2, hm, rfl, g1, g2, gb, gc, gd⟩
    · exact hright _ _ g2 g1
    · exact hright _ _ g2 g1
    · exact union53_pos b off cap b2 off2 cap2 L.length M.length L M w rfl rfl hn hm hs ht hb gb hc hd gc gd

end Go.Proofs.Qxb6600021a
