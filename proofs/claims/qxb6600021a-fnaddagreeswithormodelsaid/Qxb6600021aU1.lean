/-
  The union's small functions: zzBytes (12, 19), strictlyIncreasing (13), cloneWords (14).
-/
import Derived.Test.Qxb6600021aBase
namespace Go.Proofs.Qxb6600021a
open Go.RowKit
set_option linter.unusedVariables false



def incB (L : List (Int × Int)) : Bool := decide (∀ k, k < L.length → 1 ≤ k → ix L (k - 1) < ix L k)

set_option maxHeartbeats 400000 in
theorem inc13_pos (b off n c : Nat) (X : Nat → Int) (w : World) (hn : n ≤ maxLen) (hb : b < w.heap.size)
    (hc : ∀ i, i < n → w.cell? ⟨b, off + i * 2, none⟩ = some (.int .i64 (X i))) :
    Calls Try.prog 13 #[.slice (some ⟨b, off, none⟩) n c] w fun e w' => (e = .returned (.bool (decide (∀ k, k < n → 1 ≤ k → X (k - 1) < X k)))) ∧ Below w.heap.size w w' := by
  unfold maxLen at hn
  go_enter Try.func13, Try.ntmps13
  go_wp2
  go_loopw [3] (fun i wr => ∃ k : Nat, 1 ≤ k ∧ k ≤ n + 1 ∧ i = .int .i64 k ∧ Below w.heap.size w wr ∧ ∀ j, j < k → 1 ≤ j → j < n → X (j - 1) < X j) (fun i _ => n + 1 - (intOf i).toNat)
  case atStart => exact ⟨1, by omega, by omega, rfl, Below.refl _ _, fun j h1 h2 => by omega⟩
  case round =>
    obtain ⟨k, hk1, hk2, rfl, hbel, hall⟩ := hrel
    have HA : Hid (∀ j, j < k → 1 ≤ j → j < n → X (j - 1) < X j) := hall
    clear hall
    by_cases hlt : k < n
    · have c0 : wr.cell? ⟨b, off + (k - 1) * 2, none⟩ = some (.int .i64 (X (k - 1))) := (hbel.cell (by exact hb)).trans (hc (k - 1) (by omega))
      have c1 : wr.cell? ⟨b, off + k * 2, none⟩ = some (.int .i64 (X k)) := (hbel.cell (by exact hb)).trans (hc k (by omega))
      go_wp2
      go_region
      go_wp2
      · have hge : X k ≤ X (k - 1) := by assumption
        go_ret
        exact ⟨ret_bool (decide_eq_false (fun h => absurd (h k hlt hk1) (by omega))).symm, hbel.drew⟩
      · have hlx : X (k - 1) < X k := by assumption
        go_roundw
        case rel =>
          refine ⟨k + 1, by omega, by omega, by go_num, hbel.drew, fun j h1 h2 h3 => ?_⟩
          by_cases e : j = k
          · rw [e]; exact hlx
          · exact HA.out j (by omega) h2 h3
        case measure => simp [intOf]; omega
    · go_wp2
      go_ret
      exact ⟨ret_bool (decide_eq_true (fun j h1 h2 => HA.out j (by omega) h2 h1)).symm, hbel⟩

set_option maxHeartbeats 400000 in
theorem inc13_zero (a : Option Addr) (c : Nat) (w : World) :
    Calls Try.prog 13 #[.slice a 0 c] w fun e w' => e = .returned (.bool true) ∧ Below w.heap.size w w' := by
  go_enter Try.func13, Try.ntmps13
  go_wp2
  go_loopw [3] (fun i wr => i = .int .i64 1 ∧ wr = w) (fun _ _ => 0)
  case atStart => exact ⟨rfl, rfl⟩
  case round =>
    obtain ⟨rfl, rfl⟩ := hrel
    go_wp2
    go_ret
    exact ⟨rfl, Below.refl _ _⟩

theorem inc13 {v : Value} {L : List (Int × Int)} (w : World) (h : Prs w v L) :
    Calls Try.prog 13 #[v] w fun e w' => e = .returned (.bool (incB L)) ∧ Below w.heap.size w w' := by
  rcases h.cases with ⟨rfl, rfl⟩ | ⟨x, cap, rfl, _, rfl⟩ | ⟨b, off, cap, hn, rfl, h1, h2, hb, hc, _⟩
  · exact inc13_zero none 0 w
  · exact inc13_zero (some x) cap w
  · exact inc13_pos b off L.length cap (ix L) w (Nat.le_trans h1 h2) hb hc

theorem q22 (w : World) (a : Option Addr) (n c n' c' : Nat) : (binOp .eql 22 (.slice a n c) (.slice none n' c')).run Try.prog w = .ok (.bool a.isNone) w := Lib.run_eql_slice_nil w _ _ a n c n' c' Try.underlying22
theorem info35 : (Try.prog.info? 35).map (fun i => (i.zero, i.size, i.bytes)) = some (some (.agg #[.int .i64 0, .int .u64 0]), 2, 16) := by kernel_rfl

set_option maxHeartbeats 400000 in
theorem clone14_pos (b off n c : Nat) (L : List (Int × Int)) (w : World) (hL : L.length = n) (h1 : n ≤ 1048576) (hb : b < w.heap.size)
    (hc : ∀ i, i < n → w.cell? ⟨b, off + i * 2, none⟩ = some (.int .i64 (ix L i))) (hd : ∀ i, i < n → w.cell? ⟨b, off + i * 2 + 1, none⟩ = some (.int .u64 (bt L i))) :
    Calls Try.prog 14 #[.slice (some ⟨b, off, none⟩) n c] w fun e w' => ∃ v, e = .returned v ∧ Prs w' v L ∧ Below w.heap.size w w' := by
  obtain ⟨i0, hi, hz0, hz1, hz2⟩ := info_parts info35
  have hq := q22
  go_enter Try.func14, Try.ntmps14
  go_wp2_with (at_make; refine wpList_make_full _ rfl _ _ 22 rfl w.heap.size 35 i0 (.agg #[.int .i64 0, .int .u64 0]) 2 Try.underlying22 hi hz0 hz1 _ _ _ _ n rfl rfl rfl rfl ?b2 ?b3 (Nat.le_refl _) ?_)
  case b2 => rw [hz2]; omega
  case b3 => unfold maxLen; omega
  intro w0 hown0 hgrow0
  clear hq hi hz0 hz1 hz2
  go_wp2
  go_loopw [4] (fun i wr => ∃ k : Nat, k ≤ n ∧ i = .int .i64 k ∧ Below w.heap.size w wr ∧ ∃ cs, wr.ownsRow w.heap.size 35 2 (.slice (some ⟨w.heap.size, 0, none⟩) n n) n cs ∧ ∀ j, j < k * 2 → cs[j]? = (cellsL L)[j]?) (fun i _ => n - (intOf i).toNat)
  case atStart => exact ⟨0, by omega, rfl, (Below.refl _ _).grown hgrow0 (Nat.le_refl _) (fun k h => by cases h), _, hown0, fun j h => by omega⟩
  case round =>
    obtain ⟨k, hk, rfl, hbel, cs, hown, hall⟩ := hrel
    have HA : Hid (∀ j, j < k * 2 → cs[j]? = (cellsL L)[j]?) := hall
    clear hall
    by_cases hlt : k < n
    · have c0 : wr.cell? ⟨b, off + k * 2, none⟩ = some (.int .i64 (ix L k)) := (hbel.cell (by exact hb)).trans (hc k (by omega))
      have c1 : wr.cell? ⟨b, off + k * 2 + 1, none⟩ = some (.int .u64 (bt L k)) := (hbel.cell (by exact hb)).trans (hd k (by omega))
      obtain ⟨v0, v1, o0, o1⟩ := pair_cells hown k hlt
      have f0 := hown.frozenAt (k * 2)
      have f1 := hown.frozenAt (k * 2 + 1)
      go_wp2
      go_roundw
      case rel => exact ⟨k + 1, by omega, by go_num, below_two hbel (Nat.le_refl _) _ _, pair_step hown hL hlt HA.out⟩
      case measure => simp [intOf]; omega
    · go_wp2
      go_ret
      exact ⟨_, rfl, pair_done hown hL hlt HA.out, hbel⟩

set_option maxHeartbeats 400000 in
theorem clone14_nil (w : World) : Calls Try.prog 14 #[.slice none 0 0] w fun e w' => e = .returned (.slice none 0 0) ∧ w' = w := by
  have hq := q22
  go_enter Try.func14, Try.ntmps14
  go_wp2
  go_ret
  exact ⟨rfl, rfl⟩

set_option maxHeartbeats 400000 in
theorem clone14_zero (x : Addr) (c : Nat) (w : World) : Calls Try.prog 14 #[.slice (some x) 0 c] w fun e w' => ∃ v, e = .returned v ∧ Prs w' v [] ∧ Below w.heap.size w w' := by
  obtain ⟨i0, hi, hz0, hz1, hz2⟩ := info_parts info35
  have hq := q22
  go_enter Try.func14, Try.ntmps14
  go_wp2_with (at_make; refine wpList_make_full _ rfl _ _ 22 rfl w.heap.size 35 i0 (.agg #[.int .i64 0, .int .u64 0]) 2 Try.underlying22 hi hz0 hz1 _ _ _ _ 0 rfl rfl rfl rfl ?b2 ?b3 (Nat.le_refl _) ?_)
  case b2 => rw [hz2]; omega
  case b3 => unfold maxLen; omega
  intro w0 hown0 hgrow0
  clear hq hi hz0 hz1 hz2
  go_wp2
  go_loopw [4] (fun i wr => i = .int .i64 0 ∧ wr = w0) (fun _ _ => 0)
  case atStart => exact ⟨rfl, rfl⟩
  case round =>
    obtain ⟨rfl, rfl⟩ := hrel
    go_wp2
    go_ret
    exact ⟨_, rfl, pair_done (k := 0) hown0 rfl (by omega) (fun j h => by omega), (Below.refl _ _).grown hgrow0 (Nat.le_refl _) (fun k h => by cases h)⟩

theorem clone14 {v : Value} {L : List (Int × Int)} (w : World) (hs : L.length ≤ 1048576) (h : Prs w v L) :
    Calls Try.prog 14 #[v] w fun e w' => ∃ v', e = .returned v' ∧ Prs w' v' L ∧ Below w.heap.size w w' := by
  rcases h.cases with ⟨rfl, rfl⟩ | ⟨x, cap, rfl, _, rfl⟩ | ⟨b, off, cap, hn, rfl, h1, h2, hb, hc, hd⟩
  · exact (clone14_nil w).mono fun e w' ⟨he, hw⟩ => ⟨_, he, hw ▸ Rd.nil _ 2, hw ▸ Below.refl _ _⟩
  · exact clone14_zero x cap w
  · exact clone14_pos b off L.length cap L w rfl hs hb hc hd

end Go.Proofs.Qxb6600021a
