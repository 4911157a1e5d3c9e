/-
  AppendArrayLen (10); FnHeaderLenReadsBackArrayLen (4): the walk.
-/
import Derived.Test.Qxb6001768aDoorW3
import Derived.Test.Qxb6001768aDoorSh2
import Derived.Lib.AppendIntMem
import Derived.Lib.ItoaLen
import Derived.OwnWalk
namespace Go.Proofs.Qxb6001768aDoor
open Go.RowKit
set_option linter.unusedVariables false

theorem new_row {w : World} {B : Nat} (hB : w.heap.size = B) (xs : List Value) (t : TypeId) : ∀ j u, xs[j]? = some u → (w.alloc (.cells xs.toArray t)).cell? ((⟨B, 0, none⟩ : Addr).add j) = some u := by
  subst hB
  intro j u hu
  rw [Addr.add_lit, Nat.zero_add]
  rw [cell_of_row _ w.heap.size j xs.toArray t (0, 0) (heap_alloc_new w _)]
  simpa using hu

theorem bcs_eq (l : List UInt8) : Lib.byteCells l = bcs l := rfl

set_option maxHeartbeats 1000000 in
set_option maxRecDepth 100000 in
theorem app10 (i : Int) (h0 : -1 ≤ i) (h1 : i ≤ 1073741824) (w : World) (htab : Lib.TabIs Tryd.prog w "internal/strconv.uint64pow10" .u64 Lib.pow10Tab) :
    Calls Tryd.prog 10 #[.slice none 0 0, .int .i64 i] w fun e w' => ∃ v, e = .returned v ∧ w'.ownsRow w.heap.size 5 1 v ((Lib.itoa i).length + 3) (bcs (42 :: (Lib.itoa i ++ [13, 10]))) ∧ Below w.heap.size w w' := by
  obtain ⟨i0, hi, hz0, hz1, hz2⟩ := info_parts info5
  have hT := Lib.tabBelow_of_tabIs htab
  have la := Lib.itoa_length_le i (by omega) (by omega)
  have HT := hide hT
  clear hT htab
  go_enter Tryd.func10, Tryd.ntmps10
  go_wp2_with (at_builtin; refine wpList_append_own _ rfl (.tmp 5) (.tmp 6) 22 rfl w.heap.size 5 i0 (.int .u8 0) 1 1 Tryd.underlying22 hi hz0 hz1 hz2 rfl (by decide) (.slice none 0 0) 0 [] rfl ((World.ownsRow_nil _ _ _ _).alloc _) ⟨w.heap.size, 0, none⟩ 1 1 [.int .u8 42] rfl rfl (new_row rfl _ _) (by intro u hu; simp at hu; subst hu; rfl) ?b1 ?b2 ?b3 ?_)
  case b1 => unfold maxLen; omega
  case b2 => omega
  case b3 => simp
  intro v1 w1 hown1 hgrow1 hnil1
  have hB1 : Below w.heap.size w w1 := ((Below.refl _ _).alloc (Nat.le_refl _) _).grown hgrow1 (by simp) (fun k hk => by cases hk)
  have HO1 : Hid (w1.ownsRow w.heap.size 5 1 v1 1 [.int .u8 42]) := hown1
  clear hown1 hgrow1 hnil1
  have c12 := Tryd.strconv_AppendInt_10 w.heap.size 1 i (by omega) (by omega) v1 [.int .u8 42] w1 HO1.out hB1.size (by omega) (HT.out.on hB1)
  go_wp2_with (go_at_call 12; refine c12.mono ?_; rintro e w2 ⟨v2, rfl, hown2, hB2, -⟩; refine Hid.out ?_)
  refine hide ?_
  have B2 := hB1.trans hB2
  have HO2 : Hid (w2.ownsRow w.heap.size 5 1 v2 (1 + (Lib.itoa i).length) ([.int .u8 42] ++ Lib.byteCells (Lib.itoa i))) := hown2
  clear hown2 hB2 c12
  obtain ⟨m, hm⟩ : ∃ m, m = (Lib.itoa i).length := ⟨_, rfl⟩
  rw [← hm] at HO2 la
  have HM := hide hm
  clear hm
  obtain ⟨a2, c2, hv2, _, _, _, _⟩ := own_form HO2.out
  subst hv2
  have b2s := B2.size
  go_wp2_with (at_builtin; refine wpList_append_own _ rfl (.tmp 11) (.tmp 12) 22 rfl w.heap.size 5 i0 (.int .u8 0) 1 1 Tryd.underlying22 hi hz0 hz1 hz2 rfl (by decide) _ (1 + m) _ rfl (HO2.out.alloc _) ⟨w2.heap.size, 0, none⟩ 2 2 [.int .u8 13, .int .u8 10] rfl rfl (new_row rfl _ _) (by intro u hu; simp at hu; rcases hu with rfl | rfl <;> rfl) ?b1 ?b2 ?b3 ?_)
  case b1 => unfold maxLen; omega
  case b2 => omega
  case b3 => simp; omega
  intro v3 w3 hown3 hgrow3 hnil3
  have B3 : Below w.heap.size w w3 := (B2.alloc (by omega) _).grown hgrow3 (by simp; omega) (fun k hk => (HO2.out.lt k hk).1)
  have HO3 : Hid (w3.ownsRow w.heap.size 5 1 v3 (1 + m + 2) ([.int .u8 42] ++ Lib.byteCells (Lib.itoa i) ++ [.int .u8 13, .int .u8 10])) := hown3
  clear hown3 hgrow3 hnil3
  go_wp2
  go_ret
  refine ⟨v3, rfl, ?_, B3⟩
  have h3 := HO3.out
  rw [HM.out] at h3
  rw [show (Lib.itoa i).length + 3 = 1 + (Lib.itoa i).length + 2 by omega]
  have e : [Value.int .u8 42] ++ Lib.byteCells (Lib.itoa i) ++ [.int .u8 13, .int .u8 10] = bcs (42 :: (Lib.itoa i ++ [13, 10])) := by
    simp [bcs, Lib.byteCells]
  rw [← e]
  exact h3

theorem mid_at (l : List UInt8) (j : Nat) (h : j < l.length) : byt (42 :: (l ++ [13, 10])) (j + 1) = byt l j := by
  simp [byt, List.getD, h, List.getElem?_append_left]
theorem mid_13 (l : List UInt8) : byt (42 :: (l ++ [13, 10])) (l.length + 1) = 13 := by
  simp [byt, List.getD]
theorem mid_10 (l : List UInt8) : byt (42 :: (l ++ [13, 10])) (l.length + 2) = 10 := by
  simp [byt, List.getD]

/-- What the law needs of the text that was appended. -/
theorem app_form {w : World} {B : Nat} {v : Value} {l : List UInt8} (h : w.ownsRow B 5 1 v (l.length + 3) (bcs (42 :: (l ++ [13, 10])))) :
    ∃ g cap, v = .slice (some ⟨g, 0, none⟩) (l.length + 3) cap ∧ l.length + 3 ≤ cap ∧ cap ≤ maxLen ∧ w.cell? ⟨g, 0, none⟩ = some (.int .u8 42) ∧ w.cell? ⟨g, l.length + 1, none⟩ = some (.int .u8 13) ∧ w.cell? ⟨g, l.length + 2, none⟩ = some (.int .u8 10) ∧
      Bs w (.slice (some ⟨g, 1, none⟩) l.length (cap - 1)) l := by
  obtain ⟨a, c, rfl, h1, h2, _, h4⟩ := own_form h
  obtain ⟨g, rfl, _, hg⟩ := h4 (by omega)
  have hc : ∀ j, j < l.length + 3 → w.cell? ⟨g, j, none⟩ = some (.int .u8 (byt (42 :: (l ++ [13, 10])) j)) := fun j hj => by
    rw [h.cellAt j (by omega), bcs_at _ j (by simp; omega)]
  refine ⟨g, c, rfl, h1, h2, hc 0 (by omega), ?_, ?_, ?_⟩
  · rw [hc _ (by omega), mid_13]
  · rw [hc _ (by omega), mid_10]
  · refine ⟨some ⟨g, 1, none⟩, c - 1, rfl, by omega, by omega, (fun e => by cases e), fun hl => ⟨g, 1, rfl, hg, fun j hj => ?_⟩⟩
    rw [Nat.add_comm 1 j, hc _ (by omega), mid_at l j hj]

set_option maxHeartbeats 1000000 in
set_option maxRecDepth 100000 in
theorem law4 (i lim : Int) (s : ByteArray) (w : World) (hs : s.size ≤ maxLen) (htab : Lib.TabIs Tryd.prog w "internal/strconv.uint64pow10" .u64 Lib.pow10Tab) (tp0 tp1 : TypeId) (p0 p1 : Value)
    (hv0 : w.var? Tryd.prog "strconv.ErrSyntax" = some #[.iface tp0 p0]) (hv1 : w.var? Tryd.prog "strconv.ErrRange" = some #[.iface tp1 p1]) :
    Calls Tryd.prog 4 #[.int .i64 i, .int .i64 lim, .string s] w fun e w' => e = .returned (.bool true) ∧ Below w.heap.size w w' := by
  have z9 := zzb9 i lim s w hs
  have HV0 := hide hv0
  have HV1 := hide hv1
  have HTb := hide htab
  unfold maxLen at hs
  clear hv0 hv1 htab
  by_cases hsz : s.size ≤ 1048576
  · rw [decide_eq_true hsz] at z9
    have e0 : decide ((1048576 : Int) < (s.size : Int)) = false := decide_eq_false (by omega)
    by_cases h1 : lim < -1073741824
    · go_enter Tryd.func4, Tryd.ntmps4
      go_wp2_with (go_at_call 9; refine z9.mono ?_; rintro e w1 ⟨rfl, rfl⟩)
      go_ret
      exact ⟨rfl, Below.refl _ _⟩
    · by_cases h2 : 1073741824 < lim
      · go_enter Tryd.func4, Tryd.ntmps4
        go_wp2_with (go_at_call 9; refine z9.mono ?_; rintro e w1 ⟨rfl, rfl⟩)
        go_ret
        exact ⟨rfl, Below.refl _ _⟩
      · by_cases h3 : i < -1
        · go_enter Tryd.func4, Tryd.ntmps4
          go_wp2_with (go_at_call 9; refine z9.mono ?_; rintro e w1 ⟨rfl, rfl⟩)
          go_ret
          exact ⟨rfl, Below.refl _ _⟩
        · by_cases h4 : lim < i
          · go_enter Tryd.func4, Tryd.ntmps4
            go_wp2_with (go_at_call 9; refine z9.mono ?_; rintro e w1 ⟨rfl, rfl⟩)
            go_ret
            exact ⟨rfl, Below.refl _ _⟩
          · have c10 := app10 i (by omega) (by omega) w HTb.out
            have la := Lib.itoa_length_le i (by omega) (by omega)
            have lp := itoa_pos i
            have hr := atoi_itoa i (by omega) (by omega)
            have hd1 : hdr (Lib.itoa i) lim = some i := by
              unfold hdr
              rw [hr]
              simp only
              rw [if_neg (by omega)]
            have hd2 : hdr (Lib.itoa i) (i - 1) = none := by
              unfold hdr
              rw [hr]
              simp only
              rw [if_pos (by omega)]
            have HD1 := hide hd1
            have HD2 := hide hd2
            clear hr hd1 hd2
            go_enter Tryd.func4, Tryd.ntmps4
            go_wp2_with (go_at_call 9; refine z9.mono ?_; rintro e w1 ⟨rfl, rfl⟩)
            refine c10.mono ?_
            rintro e w2 ⟨v2, rfl, hown, b2⟩
            clear c10 z9
            obtain ⟨g, cap, rfl, hc1, hc2, q0, q1, q2, hbs⟩ := app_form hown
            have HBs := hide hbs
            have c8 := zz8 lim s w2 hbs (by omega) tp0 tp1 p0 p1 (var_keep b2 HV0.out) (var_keep b2 HV1.out)
            rw [HD1.out] at c8
            obtain ⟨l, hl⟩ : ∃ l, l = Lib.itoa i := ⟨_, rfl⟩
            rw [← hl] at c8 HBs q1 q2 la lp hc1 HD2
            rw [← hl]
            obtain ⟨m, hm⟩ : ∃ m, m = l.length := ⟨_, rfl⟩
            rw [← hm] at c8 HBs q1 q2 la lp hc1
            rw [← hm]
            unfold maxLen at hc2
            have HM := hide hm
            clear hown hbs hl hm
            go_wp2_with fail
            refine c8.mono ?_
            rintro e w3 ⟨rfl, b3⟩
            simp only [hres]
            have B3 := b2.trans (b3.mono b2.size)
            have c8b := zz8 (i - 1) s w3 (HBs.out.below b3) (by rw [← HM.out]; omega) tp0 tp1 p0 p1 (var_keep B3 HV0.out) (var_keep B3 HV1.out)
            rw [HD2.out] at c8b
            clear c8
            go_wp2_with fail
            refine c8b.mono ?_
            rintro e w4 ⟨rfl, b4⟩
            simp only [hres]
            go_wp2
            go_ret
            exact ⟨by trivial, B3.trans (b4.mono B3.size)⟩
  · rw [decide_eq_false hsz] at z9
    go_enter Tryd.func4, Tryd.ntmps4
    go_wp2_with (go_at_call 9; refine z9.mono ?_; rintro e w1 ⟨rfl, rfl⟩)
    go_ret
    exact ⟨rfl, Below.refl _ _⟩

end Go.Proofs.Qxb6001768aDoor
