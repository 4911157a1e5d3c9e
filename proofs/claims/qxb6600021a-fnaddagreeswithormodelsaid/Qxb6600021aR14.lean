/-
  singleBits (25), ZZRunWords (31), viewWord (33).
-/
import Derived.Test.Qxb6600021aView
import Derived.Test.Qxb6600021aR12
namespace Go.Proofs.Qxb6600021a
open Go.RowKit
set_option linter.unusedVariables false

theorem sg_yes {x : Int} (h : (bits .and .u64 x (IntKind.u64.wrap (x - 1)) != 0) = false) : andU x ((x - 1) % 18446744073709551616) = 0 := by
  rw [IntKind.wrap_u64] at h
  simpa [andU] using h
theorem sg_no {x : Int} (h : (bits .and .u64 x (IntKind.u64.wrap (x - 1)) != 0) = true) : ¬ andU x ((x - 1) % 18446744073709551616) = 0 := by
  rw [IntKind.wrap_u64] at h
  simpa [andU] using h

theorem fnd_first (ch : List (Int × Int)) (z : Int) : ∀ (j : Nat), j < ch.length → (∀ l, l < j → ix ch l ≠ z) → ix ch j = z → fnd ch z = (bt ch j, true) := by
  induction ch with
  | nil => intro j hj; simp at hj
  | cons p l ih =>
    intro j hj h he
    rw [fnd]
    cases j with
    | zero => rw [if_pos (show p.1 = z from he)]; rfl
    | succ j =>
      rw [if_neg (show ¬ p.1 = z from h 0 (by omega))]
      exact ih j (by simpa using hj) (fun l2 hl => h (l2 + 1) (by omega)) he

/-- The first m bits are zero or single. -/
def sgB (bs : List Int) (m : Nat) : Bool := decide (∀ k, k < m → k < bs.length → andU (wd bs k) ((wd bs k - 1) % 18446744073709551616) = 0)

set_option maxHeartbeats 400000 in
theorem sgB25 {v : Value} {ns : List Int} (m : Nat) (w : World) (hm : m ≤ 1048576) (h : Ns .u64 w v ns) (hr : ∀ k, 0 ≤ wd ns k ∧ wd ns k < 18446744073709551616) :
    Calls Try.prog 25 #[v, .int .i64 (m : Int)] w fun e w' => e = .returned (.bool (sgB ns m)) ∧ Below w.heap.size w w' := by
  obtain ⟨a, n, c, rfl, hn, _, hM, hf⟩ := h.form
  unfold maxLen at hM
  have HF : Hid _ := hf
  have HN : Hid (n = ns.length) := hn
  have HR : Hid _ := hr
  clear hf hn h hr
  go_enter Try.func25, Try.ntmps25
  go_wp2
  go_loopw [5] (fun i wr => ∃ k : Nat, k ≤ m ∧ k ≤ n ∧ i = .int .i64 k ∧ Below w.heap.size w wr ∧ ∀ j, j < k → andU (wd ns j) ((wd ns j - 1) % 18446744073709551616) = 0) (fun i _ => m - (intOf i).toNat)
  case atStart => exact ⟨0, by omega, by omega, rfl, Below.refl _ _, fun j h => by omega⟩
  case round =>
    obtain ⟨k, hk, hkn, rfl, hbel, hall⟩ := hrel
    have HA : Hid (∀ j, j < k → andU (wd ns j) ((wd ns j - 1) % 18446744073709551616) = 0) := hall
    clear hall
    by_cases h1 : k < m
    · by_cases h2 : k < n
      · obtain ⟨b, off, hx, hb, hc⟩ := HF.out (by omega)
        subst hx
        have c0 := (hbel.cell (p := ⟨b, off + k, none⟩) (by exact hb)).trans (hc k h2)
        clear hc
        go_wp2
        go_region
        go_wp2
        · have hx := sg_no (by assumption)
          go_ret
          exact ⟨ret_bool (decide_eq_false (fun h => hx (h k h1 (by rw [← HN.out]; exact h2)))).symm, hbel.drew⟩
        · have hx := sg_yes (by assumption)
          go_roundw
          case rel =>
            refine ⟨k + 1, by omega, by omega, by go_num, hbel.drew, fun j hj => ?_⟩
            by_cases e : j = k
            · rw [e]; exact hx
            · exact HA.out j (by omega)
          case measure => simp [intOf]; omega
      · have t1 : decide ((k : Int) < (n : Int)) = false := decide_eq_false (by omega)
        go_wp2
        go_ret
        exact ⟨ret_bool (decide_eq_true (fun j h3 h4 => HA.out j (by rw [← HN.out] at h4; omega))).symm, hbel⟩
    · have t1 : decide ((k : Int) < (m : Int)) = false := decide_eq_false (by omega)
      go_wp2
      go_ret
      exact ⟨ret_bool (decide_eq_true (fun j h3 h4 => HA.out j (by omega))).symm, hbel⟩

theorem q38' (w : World) (a : Option Addr) (n c n' c' : Nat) : (binOp .eql 38 (.slice a n c) (.slice none n' c')).run Try.prog w = .ok (.bool a.isNone) w := Lib.run_eql_slice_nil w _ _ a n c n' c' Try.underlying38

set_option maxHeartbeats 400000 in
theorem words31 {base R : Nat} {ws : List Int} {own : Bool} {ch : List (Int × Int)} {vw vc : Value} (w : World) (h : Run w base R ws own ch vw vc) (hn : ws.length ≤ 1048576) :
    Calls Try.prog 31 #[.pointer (some ⟨R, 0, none⟩)] w fun e w' => ∃ v', e = .returned v' ∧ Ns .u64 w' v' ws ∧ Below w.heap.size w w' := by
  obtain ⟨i0, hi0, hz0, hz1, hz2⟩ := info_parts info29
  obtain ⟨c0, c1, c2, f0, f1, f2⟩ := h.cells
  have hw := h.words
  obtain ⟨aw, cw, hvw, hcw1, hcw2, hgw⟩ := own_form hw
  have hnilc : aw = none → ws.length = 0 := fun e => by
    by_cases hp : 0 < ws.length
    · obtain ⟨g, hg, _⟩ := hgw hp; rw [hg] at e; cases e
    · omega
  obtain ⟨n, hn'⟩ : ∃ n, n = ws.length := ⟨_, rfl⟩
  rw [← hn'] at hvw hw hn hnilc
  subst hvw
  have HN : Hid (n = ws.length) := hn'
  have HR : Hid _ := h
  have hq := q38'
  have HW : Hid (w.ownsRow base 29 1 (.slice aw n cw) n (u64s ws)) := hw
  clear h hn' hgw hcw1 hw
  cases aw with
  | none =>
    have hws : ws = [] := List.eq_nil_of_length_eq_zero (by rw [← HN.out]; exact hnilc rfl)
    have HWs : Hid (ws = []) := hws
    clear hnilc hws
    go_enter Try.func31, Try.ntmps31
    go_wp2
    go_ret
    exact ⟨_, rfl, by rw [HWs.out]; exact Rd.nil _ 1, Below.refl _ _⟩
  | some x =>
    clear hnilc
    go_enter Try.func31, Try.ntmps31
    go_wp2_with (at_make; refine wpList_make_full _ rfl _ _ 38 rfl w.heap.size 29 i0 (.int .u64 0) 1 Try.underlying38 hi0 hz0 hz1 _ _ _ _ n rfl rfl rfl rfl ?m2 ?m3 (Nat.le_refl _) ?_)
    case m2 => rw [hz2]; omega
    case m3 => unfold maxLen; omega
    intro w3 hown3 hgrow3
    rw [made_zeros'] at hown3
    have R3 := run_grown_none HR.out hgrow3
    have B3 : Below w.heap.size w w3 := (Below.refl _ _).grown hgrow3 (Nat.le_refl _) (fun j hj => by cases hj)
    obtain ⟨d0, d1, d2, y0, y1, y2⟩ := R3.cells
    have hw3 := R3.words
    rw [← HN.out] at hw3
    have HO3 : Hid (w3.ownsRow w.heap.size 29 1 (.slice (some ⟨w.heap.size, 0, none⟩) n n) n (u64s (zeros n))) := hown3
    clear hown3 hgrow3 R3 hq c0 c1 c2 f0 f1 f2
    go_wp2_with (refine wpList_copy_from rfl (.tmp 15) (.tmp 19) 38 38 rfl 29 i0 1 Try.underlying38 hi0 hz1 (by decide) _ _ _ w.heap.size w.heap.size n n rfl rfl (u64s (zeros n)) HO3.out (u64s ws) (by rw [u64s_length, ← HN.out, Nat.mul_one]; exact (Nat.min_eq_left (Nat.le_refl _)).symm) (own_src hw3) (u64s_one ws) ?_)
    intro w4 hown4 hgrow4
    rw [copied ws n (by rw [← HN.out]; exact Nat.le_refl _)] at hown4
    have B4 : Below w.heap.size w w4 := B3.grown hgrow4 (by have := B3.size; omega) (fun j hj => by cases hj; exact Nat.le_refl _)
    have hpad : pad ws n = ws := by unfold pad zeros; rw [← HN.out]; simp
    rw [hpad] at hown4
    have HO4 : Hid (w4.ownsRow w.heap.size 29 1 (.slice (some ⟨w.heap.size, 0, none⟩) n n) n (u64s ws)) := hown4
    clear hown4 hgrow4 hpad
    go_wp2
    go_ret
    exact ⟨_, rfl, Ns.ofOwn (base := w.heap.size) (e := 29) (by rw [← HN.out]; exact HO4.out), B4⟩

set_option maxHeartbeats 400000 in
theorem view33 {v0 v1 : Value} {ws : List Int} {ch : List (Int × Int)} (k : Nat) (w : World) (hk : k ≤ 1048576) (h0 : Ns .u64 w v0 ws) (h1 : Prs w v1 ch) (hq : ch.length ≤ 8) :
    Calls Try.prog 33 #[v0, v1, .int .i64 (k : Int)] w fun e w' => e = .returned (.int .u64 (viewW ws ch k)) ∧ w' = w := by
  obtain ⟨a, n, c, rfl, hn, _, hM, hf⟩ := h0.form
  obtain ⟨a1, q, c1, rfl, hq1, hf1⟩ := Prs.form2 h1
  rw [← hq1] at hq
  unfold maxLen at hM
  have HF : Hid _ := hf
  have HF1 : Hid _ := hf1
  have HN : Hid (n = ws.length) := hn
  have HQ : Hid (q = ch.length) := hq1
  clear hf hn h0 hf1 hq1 h1
  go_enter Try.func33, Try.ntmps33
  go_wp2
  go_loopw [7] (fun i wr => ∃ j : Nat, j ≤ q ∧ i = .int .i64 j ∧ wr = w ∧ ∀ l, l < j → ix ch l ≠ (k : Int)) (fun i _ => q - (intOf i).toNat)
  case atStart => exact ⟨0, by omega, rfl, rfl, fun l hl => by omega⟩
  case round =>
    obtain ⟨j, hj, rfl, rfl, hall⟩ := hrel
    have HA : Hid (∀ l, l < j → ix ch l ≠ (k : Int)) := hall
    clear hall
    by_cases hlt : j < q
    · obtain ⟨b, off, hx, hb, hc, hd⟩ := HF1.out (by omega)
      subst hx
      have c0 := hc j hlt
      have c1 := hd j hlt
      clear hc hd
      by_cases he : ix ch j = (k : Int)
      · have t1 : (ix ch j == (k : Int)) = true := beq_iff_eq.2 he
        have HE : Hid (ix ch j = (k : Int)) := he
        clear he
        go_wp2
        go_ret
        refine ⟨?_, rfl⟩
        show Ending.returned (.int .u64 (bt ch j)) = _
        have hf : fnd ch (k : Int) = (bt ch j, true) := fnd_first ch _ j (by rw [← HQ.out]; exact hlt) HA.out HE.out
        unfold viewW
        rw [hf]
        rfl
      · have t1 : (ix ch j == (k : Int)) = false := beq_eq_false_iff_ne.2 he
        go_wp2
        go_roundw
        case rel =>
          refine ⟨j + 1, by omega, by go_num, by trivial, fun l hl => ?_⟩
          by_cases e : l = j
          · rw [e]; exact he
          · exact HA.out l (by omega)
        case measure => simp [intOf]; omega
    · have hno : fnd ch (k : Int) = (0, false) := fnd_none (fun l hl => HA.out l (by rw [← HQ.out] at hl; omega))
      have HNo : Hid _ := hno
      clear hno
      by_cases hkn : k < n
      · obtain ⟨b, off, hx, hb, hc⟩ := HF.out (by omega)
        subst hx
        have c0 := hc k hkn
        clear hc
        go_wp2
        go_ret
        refine ⟨?_, rfl⟩
        unfold viewW
        rw [HNo.out]
        rfl
      · have HO : Hid (wd ws k = 0) := wd_out0 (by rw [← HN.out]; exact hkn)
        go_wp2
        go_ret
        refine ⟨?_, rfl⟩
        unfold viewW
        rw [HNo.out, HO.out]
        rfl

end Go.Proofs.Qxb6600021a
