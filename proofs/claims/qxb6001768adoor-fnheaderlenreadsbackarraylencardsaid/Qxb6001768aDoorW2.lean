/-
  The law's own model (7): the walk.
-/
import Derived.Test.Qxb6001768aDoorW1
namespace Go.Proofs.Qxb6001768aDoor
open Go.RowKit
set_option linter.unusedVariables false

theorem sgn_byt {l : List UInt8} (h : 0 < l.length) : sgn l = decide (byt l 0 = 43 ∨ byt l 0 = 45) ∧ neg l = decide (byt l 0 = 45) := by
  cases l with
  | nil => simp at h
  | cons c r =>
    simp only [sgn, neg, byt, List.getD, List.getElem?_cons_zero, Option.getD_some]
    refine ⟨?_, ?_⟩
    · congr 1
      apply propext
      omega
    · congr 1
      apply propext
      omega

/-- Where the digits begin. -/
def dg (l : List UInt8) : Nat := if sgn l then 1 else 0
theorem dg_drop (l : List UInt8) : (if sgn l then l.drop 1 else l) = l.drop (dg l) := by
  unfold dg
  cases sgn l <;> rfl
theorem dg_le (l : List UInt8) : dg l ≤ l.length := by
  unfold dg
  cases l with
  | nil => exact Nat.le_refl _
  | cons c r => split <;> simp
theorem mdl_nil {l : List UInt8} {lim : Int} (h : dg l = l.length) : mdl l lim = none := by
  unfold mdl
  rw [dg_drop, h, List.drop_length, if_pos rfl]
theorem mdl_at {l : List UInt8} {lim : Int} (h : dg l < l.length) : mdl l lim = match mrun 0 false (l.drop (dg l)) with
    | none => none
    | some (_, true) => none
    | some (m, false) => fin (neg l) lim m := by
  unfold mdl
  rw [dg_drop, if_neg (by simp; omega)]
  rfl

theorem drop_at {l : List UInt8} {i : Nat} (h : i < l.length) : l.drop i = l.getD i 0 :: l.drop (i + 1) := by
  rw [List.drop_eq_getElem_cons h]
  simp [List.getD, h]

theorem mrun_at {l : List UInt8} {i m : Nat} {b : Bool} {q : Nat} (h : i < l.length) (hq : byt l i = (q : Int)) : mrun m b (l.drop i) = if 48 ≤ q ∧ q ≤ 57 then (if b then mrun m true (l.drop (i + 1)) else mrun (m * 10 + (q - 48)) (decide (2097152 < m * 10 + (q - 48))) (l.drop (i + 1))) else none := by
  have : (l.getD i 0).toNat = q := by unfold byt at hq; omega
  rw [drop_at h, mrun, this]

def mres : Option Int → Value
  | some x => .tuple #[.bool true, .int .i64 x]
  | none => .tuple #[.bool false, .int .i64 0]

set_option maxHeartbeats 2000000 in
theorem model7 {v : Value} {l : List UInt8} (lim : Int) (w : World) (h : Bs w v l) (hl : l.length ≤ 1048576) (hlim : -1048576 ≤ lim ∧ lim ≤ 1048576) :
    Calls Tryd.prog 7 #[v, .int .i64 lim] w fun e w' => e = .returned (mres (mdl l lim)) ∧ Below w.heap.size w w' := by
  obtain ⟨R, hR⟩ : ∃ R, R = mdl l lim := ⟨_, rfl⟩
  rw [← hR]
  have HR0 := hide hR
  clear hR
  obtain ⟨a, n, c, rfl, hn, _, hM, hf⟩ := h.form
  have HF := hide hf
  have HN := hide hn
  have hn' : n ≤ 1048576 := by omega
  clear hf hn hl h
  go_enter Tryd.func7, Tryd.ntmps7
  go_upto_region 3 with fail
  go_cut [26] (fun s26 wx => s26 = .bool (sgn l) ∧ wx = w)
  case first =>
    by_cases h0 : 0 < n
    · obtain ⟨b, off, ha, hb, hc⟩ := HF.out h0
      subst ha
      have x0 := hc 0 h0
      rw [Nat.add_zero] at x0
      obtain ⟨y, hy⟩ : ∃ y, y = byt l 0 := ⟨_, rfl⟩
      rw [← hy] at x0
      have hs := sgn_byt (l := l) (by rw [← HN.out]; exact h0)
      rw [← hy] at hs
      have HS := hide hs
      clear hc hy hs
      by_cases h43 : y = 43
      · subst h43
        go_wp2
        go_meet
        exact ⟨by rw [HS.out.1]; rfl, by trivial⟩
      · by_cases h45 : y = 45
        · subst h45
          go_wp2
          go_meet
          exact ⟨by rw [HS.out.1]; rfl, by trivial⟩
        · go_wp2
          go_meet
          exact ⟨by rw [HS.out.1]; simp [h43, h45], by trivial⟩
    · have hnil : l = [] := List.eq_nil_of_length_eq_zero (by rw [← HN.out]; omega)
      have HNil := hide hnil
      clear hnil
      have h0' : n = 0 := by omega
      subst h0'
      go_wp2
      go_meet
      have := HNil.out
      subst this
      exact ⟨rfl, by trivial⟩
  case rest =>
  obtain ⟨rfl, hwc⟩ := hcut
  obtain ⟨wD, hwD⟩ : ∃ W, W = wc := ⟨_, rfl⟩
  subst hwD
  subst hwc
  go_upto_if 26 with fail
  go_cut [6, 7] (fun s6 s7 wx => s6 = .int .i64 (dg l : Int) ∧ s7 = .bool (neg l) ∧ wx = wD)
  case first =>
    by_cases hsg : sgn l = true
    · have h0 : 0 < n := by
        rw [HN.out]
        cases l with
        | nil => cases hsg
        | cons c r => simp
      obtain ⟨b, off, ha, hb, hc⟩ := HF.out h0
      subst ha
      have x0 := hc 0 h0
      rw [Nat.add_zero] at x0
      obtain ⟨y, hy⟩ : ∃ y, y = byt l 0 := ⟨_, rfl⟩
      rw [← hy] at x0
      have hs := sgn_byt (l := l) (by rw [← HN.out]; exact h0)
      rw [← hy] at hs
      have HS := hide hs
      have HSg := hide hsg
      rw [hsg]
      clear hc hy hs hsg
      by_cases h45 : y = 45
      · subst h45
        go_wp2
        go_meet
        exact ⟨by unfold dg; rw [HSg.out]; rfl, by rw [HS.out.2]; rfl, by trivial⟩
      · go_wp2
        go_meet
        exact ⟨by unfold dg; rw [HSg.out]; rfl, by rw [HS.out.2]; simp [h45], by trivial⟩
    · have hsf := Bool.eq_false_iff.2 hsg
      have hnf : neg l = false := by
        cases l with
        | nil => rfl
        | cons c r =>
          simp only [sgn, decide_eq_true_eq] at hsg
          simp only [neg, decide_eq_false_iff_not]
          omega
      have HSg := hide hsf
      have HNf := hide hnf
      rw [hsf]
      clear hsf hnf hsg
      go_wp2
      go_meet
      exact ⟨by unfold dg; rw [HSg.out]; rfl, by rw [HNf.out], by trivial⟩
  case rest =>
  obtain ⟨rfl, rfl, hwc⟩ := hcut
  subst hwc
  have hd := dg_le l
  rw [← HN.out] at hd
  obtain ⟨i0, hi0⟩ : ∃ i0, i0 = dg l := ⟨_, rfl⟩
  have HI0 := hide hi0
  rw [← hi0]
  rw [← hi0] at hd
  clear hi0
  obtain ⟨ng, hng⟩ : ∃ ng, ng = neg l := ⟨_, rfl⟩
  have HNg := hide hng
  rw [← hng]
  clear hng
  by_cases he : i0 = n
  · have hm : R = none := by rw [HR0.out]; exact mdl_nil (by rw [← HI0.out, ← HN.out]; exact he)
    clear HR0
    subst hm
    go_wp2
    go_ret2
    exact ⟨rfl, Below.refl _ _⟩
  · have hml := mdl_at (l := l) (lim := lim) (by rw [← HI0.out, ← HN.out]; omega)
    have hlt0 : i0 < n := by omega
    have heq : ((i0 : Int) == (n : Int)) = false := by rw [beq_eq_false_iff_ne]; omega
    rw [← HR0.out] at hml
    have HML := hide hml
    clear hml HR0
    go_wp2
    go_loopg [6, 8, 9] (n - i0) (fun gn si sm sb wr => ∃ (i m : Nat) (b : Bool), i + gn = n ∧ si = .int .i64 i ∧ sm = .int .i64 m ∧ sb = .bool b ∧ wr = wc ∧ mrun 0 false (l.drop (dg l)) = mrun m b (l.drop i) ∧ (b = false → m ≤ 2097152) ∧ m ≤ 20971529)
    case atStart => exact ⟨i0, 0, false, by omega, rfl, rfl, rfl, rfl, by rw [HI0.out], fun _ => by omega, by omega⟩
    case round =>
      obtain ⟨i, m, b, hig, rfl, rfl, rfl, rfl, hrun, hmb, hmm⟩ := hrel
      have HIG := hide hig
      have hi : i ≤ n := by omega
      have hgi : i < n → 0 < gk := by omega
      have HRun := hide hrun
      have HMB := hide hmb
      clear hig hrun hmb
      by_cases hlt : i < n
      · obtain ⟨bb, off, ha, hb, hc⟩ := HF.out (by omega)
        subst ha
        have x0 := hc i hlt
        obtain ⟨q, hq, hq1, hq2⟩ := byt_nat l i
        rw [hq] at x0
        have HQ := hide (mrun_at (l := l) (i := i) (m := m) (b := b) (by rw [← HN.out]; exact hlt) hq)
        clear hc hq hq1
        by_cases h48 : q < 48
        · have hnone : R = none := by
            rw [HML.out, HRun.out, HQ.out, if_neg (by omega)]
          subst hnone
          go_wp2
          go_ret2
          exact ⟨rfl, Below.refl _ _⟩
        · by_cases h57 : 57 < q
          · have hnone : R = none := by
              rw [HML.out, HRun.out, HQ.out, if_neg (by omega)]
            subst hnone
            go_wp2
            go_ret2
            exact ⟨rfl, Below.refl _ _⟩
          · cases b with
            | true =>
              go_wp2
              go_roundg (gk - 1)
              case measure => have := hgi hlt; omega
              case rel => exact ⟨i + 1, m, true, by have := HIG.out; have := hgi hlt; omega, by go_num, rfl, rfl, rfl, by rw [HRun.out, HQ.out, if_pos (by omega)]; rfl, (fun h => by cases h), hmm⟩
            | false =>
              have hm2 := HMB.out rfl
              obtain ⟨d, hd⟩ : ∃ d : Nat, q = 48 + d := ⟨q - 48, by omega⟩
              subst hd
              have HQ2 : Hid (mrun 0 false (l.drop (dg l)) = mrun (m * 10 + d) (decide (2097152 < m * 10 + d)) (l.drop (i + 1))) := by
                show mrun 0 false (l.drop (dg l)) = _
                rw [HRun.out, HQ.out, if_pos (by omega), show 48 + d - 48 = d by omega]
                rfl
              clear HQ
              by_cases hbig : 2097152 < m * 10 + d
              · go_wp2
                go_roundg (gk - 1)
                case measure => have := hgi hlt; omega
                case rel => exact ⟨i + 1, m * 10 + d, true, by have := HIG.out; have := hgi hlt; omega, by go_num, by go_num, rfl, rfl, by rw [HQ2.out, decide_eq_true hbig], (fun h => by cases h), by omega⟩
              · go_wp2
                go_roundg (gk - 1)
                case measure => have := hgi hlt; omega
                case rel => exact ⟨i + 1, m * 10 + d, false, by have := HIG.out; have := hgi hlt; omega, by go_num, by go_num, rfl, rfl, by rw [HQ2.out, decide_eq_false hbig], fun _ => by omega, by omega⟩
      · have hin : i = n := by omega
        have hR : R = if b then none else fin ng lim m := by
          rw [HML.out, HRun.out, hin, HN.out, List.drop_length, mrun, HNg.out]
          cases b <;> rfl
        have HR := hide hR
        clear hR hin
        cases b with
        | true =>
          have := HR.out
          rw [if_pos rfl] at this
          subst this
          go_wp2
          go_ret2
          exact ⟨rfl, Below.refl _ _⟩
        | false =>
          have hr := HR.out
          rw [if_neg Bool.false_ne_true] at hr
          unfold fin at hr
          cases ng with
          | true =>
            simp only [if_true] at hr
            by_cases t1 : -(m : Int) < -1
            · rw [if_pos (.inl t1)] at hr
              subst hr
              go_wp2
              go_ret2
              exact ⟨rfl, Below.refl _ _⟩
            · by_cases t2 : lim < -(m : Int)
              · rw [if_pos (.inr t2)] at hr
                subst hr
                go_wp2
                go_ret2
                exact ⟨rfl, Below.refl _ _⟩
              · rw [if_neg (by omega)] at hr
                subst hr
                go_wp2
                go_ret2
                exact ⟨rfl, Below.refl _ _⟩
          | false =>
            simp only [Bool.false_eq_true, if_false] at hr
            by_cases t2 : lim < (m : Int)
            · rw [if_pos (.inr t2)] at hr
              subst hr
              go_wp2
              go_ret2
              exact ⟨rfl, Below.refl _ _⟩
            · rw [if_neg (by omega)] at hr
              subst hr
              go_wp2
              go_ret2
              exact ⟨rfl, Below.refl _ _⟩

end Go.Proofs.Qxb6001768aDoor
