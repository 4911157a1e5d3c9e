/-
  The copying functions of pairs: toZZWords (16), zzToSet (52), zzFromSet (51).
-/
import Derived.Test.Qxb6600021aBase
namespace Go.Proofs.Qxb6600021a
open Go.RowKit
set_option linter.unusedVariables false

theorem info31 : (Try.prog.info? 31).map (fun i => (i.zero, i.size, i.bytes)) = some (some (.agg #[.int .i64 0, .int .u64 0]), 2, 16) := by kernel_rfl
theorem info118 : (Try.prog.info? 118).map (fun i => (i.zero, i.size, i.bytes)) = some (some (.agg #[.int .i64 0, .int .u64 0]), 2, 16) := by kernel_rfl

theorem q16 (w : World) (a : Option Addr) (n c n' c' : Nat) : (binOp .eql 22 (.slice a n c) (.slice none n' c')).run Try.prog w = .ok (.bool a.isNone) w := Lib.run_eql_slice_nil w _ _ a n c n' c' Try.underlying22

set_option maxHeartbeats 400000 in
theorem copy16_pos (b off n c : Nat) (L : List (Int × Int)) (w : World) (hL : L.length = n) (h1 : n ≤ 1048576) (hb : b < w.heap.size)
    (hc : ∀ i, i < n → w.cell? ⟨b, off + i * 2, none⟩ = some (.int .i64 (ix L i))) (hd : ∀ i, i < n → w.cell? ⟨b, off + i * 2 + 1, none⟩ = some (.int .u64 (bt L i))) :
    Calls Try.prog 16 #[.slice (some ⟨b, off, none⟩) n c] w fun e w' => ∃ v, e = .returned v ∧ Prs w' v L ∧ Below w.heap.size w w' := by
  obtain ⟨i0, hi, hz0, hz1, hz2⟩ := info_parts info31
  have hq := q16
  go_enter Try.func16, Try.ntmps16
  go_wp2_with (at_make; refine wpList_make_full _ rfl _ _ 26 rfl w.heap.size 31 i0 (.agg #[.int .i64 0, .int .u64 0]) 2 Try.underlying26 hi hz0 hz1 _ _ _ _ n rfl rfl rfl rfl ?b2 ?b3 (Nat.le_refl _) ?_)
  case b2 => rw [hz2]; omega
  case b3 => unfold maxLen; omega
  intro w0 hown0 hgrow0
  clear hq hi hz0 hz1 hz2
  go_wp2
  go_loopw [4] (fun i wr => ∃ k : Nat, k ≤ n ∧ i = .int .i64 k ∧ Below w.heap.size w wr ∧ ∃ cs, wr.ownsRow w.heap.size 31 2 (.slice (some ⟨w.heap.size, 0, none⟩) n n) n cs ∧ ∀ j, j < k * 2 → cs[j]? = (cellsL L)[j]?) (fun i _ => n - (intOf i).toNat)
  case atStart => exact ⟨0, by omega, rfl, (Below.refl _ _).grown hgrow0 (Nat.le_refl _) (fun k h => by cases h), _, hown0, fun j h => by omega⟩
  case round =>
    obtain ⟨k, hk, rfl, hbel, cs, hown, hall⟩ := hrel
    have HA : Hid (∀ j, j < k * 2 → cs[j]? = (cellsL L)[j]?) := hall
    clear hall
    by_cases hlt : k < n
    · have c0 : wr.cell? ⟨b, off + k * 2, none⟩ = some (.int .i64 (ix L k)) := (hbel.cell (by exact hb)).trans (hc k (by omega))
      have c1 : wr.cell? ⟨b, off + k * 2 + 1, none⟩ = some (.int .u64 (bt L k)) := (hbel.cell (by exact hb)).trans (hd k (by omega))
      obtain ⟨v0, v1, o0, o1⟩ := pair_cells hown k hlt
      have f0 := hown.frozenAt (k * 2)
      have f1 := hown.frozenAt (k * 2 + 1)
      go_wp2
      go_region
      go_wp2
      go_roundw
      case rel => exact ⟨k + 1, by omega, by go_num, (below_two hbel (Nat.le_refl _) _ _).drew, pair_step hown hL hlt HA.out⟩
      case measure => simp [intOf]; omega
    · go_wp2
      go_ret
      exact ⟨_, rfl, pair_done hown hL hlt HA.out, hbel⟩

set_option maxHeartbeats 400000 in
theorem copy16_nil (w : World) : Calls Try.prog 16 #[.slice none 0 0] w fun e w' => e = .returned (.slice none 0 0) ∧ w' = w := by
  have hq := q16
  go_enter Try.func16, Try.ntmps16
  go_wp2
  go_ret
  exact ⟨rfl, rfl⟩

set_option maxHeartbeats 400000 in
theorem copy16_zero (x : Addr) (c : Nat) (w : World) : Calls Try.prog 16 #[.slice (some x) 0 c] w fun e w' => ∃ v, e = .returned v ∧ Prs w' v [] ∧ Below w.heap.size w w' := by
  obtain ⟨i0, hi, hz0, hz1, hz2⟩ := info_parts info31
  have hq := q16
  go_enter Try.func16, Try.ntmps16
  go_wp2_with (at_make; refine wpList_make_full _ rfl _ _ 26 rfl w.heap.size 31 i0 (.agg #[.int .i64 0, .int .u64 0]) 2 Try.underlying26 hi hz0 hz1 _ _ _ _ 0 rfl rfl rfl rfl ?b2 ?b3 (Nat.le_refl _) ?_)
  case b2 => rw [hz2]; omega
  case b3 => unfold maxLen; omega
  intro w0 hown0 hgrow0
  clear hq hi hz0 hz1 hz2
  go_wp2
  go_loopw [4] (fun i wr => i = .int .i64 0 ∧ wr = w0) (fun _ _ => 0)
  case atStart => exact ⟨rfl, rfl⟩
  case round =>
    obtain ⟨rfl, rfl⟩ := hrel
    go_wp2
    go_ret
    exact ⟨_, rfl, pair_done (k := 0) hown0 rfl (by omega) (fun j h => by omega), (Below.refl _ _).grown hgrow0 (Nat.le_refl _) (fun k h => by cases h)⟩

theorem copy16 {v : Value} {L : List (Int × Int)} (w : World) (hs : L.length ≤ 1048576) (h : Prs w v L) :
    Calls Try.prog 16 #[v] w fun e w' => ∃ v', e = .returned v' ∧ Prs w' v' L ∧ Below w.heap.size w w' := by
  rcases h.cases with ⟨rfl, rfl⟩ | ⟨x, cap, rfl, _, rfl⟩ | ⟨b, off, cap, hn, rfl, h1, h2, hb, hc, hd⟩
  · exact (copy16_nil w).mono fun e w' ⟨he, hw⟩ => ⟨_, he, hw ▸ Rd.nil _ 2, hw ▸ Below.refl _ _⟩
  · exact copy16_zero x cap w
  · exact copy16_pos b off L.length cap L w rfl hs hb hc hd

theorem q52 (w : World) (a : Option Addr) (n c n' c' : Nat) : (binOp .eql 26 (.slice a n c) (.slice none n' c')).run Try.prog w = .ok (.bool a.isNone) w := Lib.run_eql_slice_nil w _ _ a n c n' c' Try.underlying26

set_option maxHeartbeats 400000 in
theorem copy52_pos (b off n c : Nat) (L : List (Int × Int)) (w : World) (hL : L.length = n) (h1 : n ≤ 1048576) (hb : b < w.heap.size)
    (hc : ∀ i, i < n → w.cell? ⟨b, off + i * 2, none⟩ = some (.int .i64 (ix L i))) (hd : ∀ i, i < n → w.cell? ⟨b, off + i * 2 + 1, none⟩ = some (.int .u64 (bt L i))) :
    Calls Try.prog 52 #[.slice (some ⟨b, off, none⟩) n c] w fun e w' => ∃ v, e = .returned v ∧ Prs w' v L ∧ Below w.heap.size w w' := by
  obtain ⟨i0, hi, hz0, hz1, hz2⟩ := info_parts info118
  have hq := q52
  go_enter Try.func52, Try.ntmps52
  go_wp2_with (at_make; refine wpList_make_full _ rfl _ _ 83 rfl w.heap.size 118 i0 (.agg #[.int .i64 0, .int .u64 0]) 2 Try.underlying83 hi hz0 hz1 _ _ _ _ n rfl rfl rfl rfl ?b2 ?b3 (Nat.le_refl _) ?_)
  case b2 => rw [hz2]; omega
  case b3 => unfold maxLen; omega
  intro w0 hown0 hgrow0
  clear hq hi hz0 hz1 hz2
  go_wp2
  go_loopw [4] (fun i wr => ∃ k : Nat, k ≤ n ∧ i = .int .i64 k ∧ Below w.heap.size w wr ∧ ∃ cs, wr.ownsRow w.heap.size 118 2 (.slice (some ⟨w.heap.size, 0, none⟩) n n) n cs ∧ ∀ j, j < k * 2 → cs[j]? = (cellsL L)[j]?) (fun i _ => n - (intOf i).toNat)
  case atStart => exact ⟨0, by omega, rfl, (Below.refl _ _).grown hgrow0 (Nat.le_refl _) (fun k h => by cases h), _, hown0, fun j h => by omega⟩
  case round =>
    obtain ⟨k, hk, rfl, hbel, cs, hown, hall⟩ := hrel
    have HA : Hid (∀ j, j < k * 2 → cs[j]? = (cellsL L)[j]?) := hall
    clear hall
    by_cases hlt : k < n
    · have c0 : wr.cell? ⟨b, off + k * 2, none⟩ = some (.int .i64 (ix L k)) := (hbel.cell (by exact hb)).trans (hc k (by omega))
      have c1 : wr.cell? ⟨b, off + k * 2 + 1, none⟩ = some (.int .u64 (bt L k)) := (hbel.cell (by exact hb)).trans (hd k (by omega))
      obtain ⟨v0, v1, o0, o1⟩ := pair_cells hown k hlt
      have f0 := hown.frozenAt (k * 2)
      have f1 := hown.frozenAt (k * 2 + 1)
      go_wp2
      go_region
      go_wp2
      go_roundw
      case rel => exact ⟨k + 1, by omega, by go_num, (below_two hbel (Nat.le_refl _) _ _).drew, pair_step hown hL hlt HA.out⟩
      case measure => simp [intOf]; omega
    · go_wp2
      go_ret
      exact ⟨_, rfl, pair_done hown hL hlt HA.out, hbel⟩

set_option maxHeartbeats 400000 in
theorem copy52_nil (w : World) : Calls Try.prog 52 #[.slice none 0 0] w fun e w' => e = .returned (.slice none 0 0) ∧ w' = w := by
  have hq := q52
  go_enter Try.func52, Try.ntmps52
  go_wp2
  go_ret
  exact ⟨rfl, rfl⟩

set_option maxHeartbeats 400000 in
theorem copy52_zero (x : Addr) (c : Nat) (w : World) : Calls Try.prog 52 #[.slice (some x) 0 c] w fun e w' => ∃ v, e = .returned v ∧ Prs w' v [] ∧ Below w.heap.size w w' := by
  obtain ⟨i0, hi, hz0, hz1, hz2⟩ := info_parts info118
  have hq := q52
  go_enter Try.func52, Try.ntmps52
  go_wp2_with (at_make; refine wpList_make_full _ rfl _ _ 83 rfl w.heap.size 118 i0 (.agg #[.int .i64 0, .int .u64 0]) 2 Try.underlying83 hi hz0 hz1 _ _ _ _ 0 rfl rfl rfl rfl ?b2 ?b3 (Nat.le_refl _) ?_)
  case b2 => rw [hz2]; omega
  case b3 => unfold maxLen; omega
  intro w0 hown0 hgrow0
  clear hq hi hz0 hz1 hz2
  go_wp2
  go_loopw [4] (fun i wr => i = .int .i64 0 ∧ wr = w0) (fun _ _ => 0)
  case atStart => exact ⟨rfl, rfl⟩
  case round =>
    obtain ⟨rfl, rfl⟩ := hrel
    go_wp2
    go_ret
    exact ⟨_, rfl, pair_done (k := 0) hown0 rfl (by omega) (fun j h => by omega), (Below.refl _ _).grown hgrow0 (Nat.le_refl _) (fun k h => by cases h)⟩

theorem copy52 {v : Value} {L : List (Int × Int)} (w : World) (hs : L.length ≤ 1048576) (h : Prs w v L) :
    Calls Try.prog 52 #[v] w fun e w' => ∃ v', e = .returned v' ∧ Prs w' v' L ∧ Below w.heap.size w w' := by
  rcases h.cases with ⟨rfl, rfl⟩ | ⟨x, cap, rfl, _, rfl⟩ | ⟨b, off, cap, hn, rfl, h1, h2, hb, hc, hd⟩
  · exact (copy52_nil w).mono fun e w' ⟨he, hw⟩ => ⟨_, he, hw ▸ Rd.nil _ 2, hw ▸ Below.refl _ _⟩
  · exact copy52_zero x cap w
  · exact copy52_pos b off L.length cap L w rfl hs hb hc hd

theorem q51 (w : World) (a : Option Addr) (n c n' c' : Nat) : (binOp .eql 83 (.slice a n c) (.slice none n' c')).run Try.prog w = .ok (.bool a.isNone) w := Lib.run_eql_slice_nil w _ _ a n c n' c' Try.underlying83

set_option maxHeartbeats 400000 in
theorem copy51_pos (b off n c : Nat) (L : List (Int × Int)) (w : World) (hL : L.length = n) (h1 : n ≤ 1048576) (hb : b < w.heap.size)
    (hc : ∀ i, i < n → w.cell? ⟨b, off + i * 2, none⟩ = some (.int .i64 (ix L i))) (hd : ∀ i, i < n → w.cell? ⟨b, off + i * 2 + 1, none⟩ = some (.int .u64 (bt L i))) :
    Calls Try.prog 51 #[.slice (some ⟨b, off, none⟩) n c] w fun e w' => ∃ v, e = .returned v ∧ Prs w' v L ∧ Below w.heap.size w w' := by
  obtain ⟨i0, hi, hz0, hz1, hz2⟩ := info_parts info31
  have hq := q51
  go_enter Try.func51, Try.ntmps51
  go_wp2_with (at_make; refine wpList_make_full _ rfl _ _ 26 rfl w.heap.size 31 i0 (.agg #[.int .i64 0, .int .u64 0]) 2 Try.underlying26 hi hz0 hz1 _ _ _ _ n rfl rfl rfl rfl ?b2 ?b3 (Nat.le_refl _) ?_)
  case b2 => rw [hz2]; omega
  case b3 => unfold maxLen; omega
  intro w0 hown0 hgrow0
  clear hq hi hz0 hz1 hz2
  go_wp2
  go_loopw [4] (fun i wr => ∃ k : Nat, k ≤ n ∧ i = .int .i64 k ∧ Below w.heap.size w wr ∧ ∃ cs, wr.ownsRow w.heap.size 31 2 (.slice (some ⟨w.heap.size, 0, none⟩) n n) n cs ∧ ∀ j, j < k * 2 → cs[j]? = (cellsL L)[j]?) (fun i _ => n - (intOf i).toNat)
  case atStart => exact ⟨0, by omega, rfl, (Below.refl _ _).grown hgrow0 (Nat.le_refl _) (fun k h => by cases h), _, hown0, fun j h => by omega⟩
  case round =>
    obtain ⟨k, hk, rfl, hbel, cs, hown, hall⟩ := hrel
    have HA : Hid (∀ j, j < k * 2 → cs[j]? = (cellsL L)[j]?) := hall
    clear hall
    by_cases hlt : k < n
    · have c0 : wr.cell? ⟨b, off + k * 2, none⟩ = some (.int .i64 (ix L k)) := (hbel.cell (by exact hb)).trans (hc k (by omega))
      have c1 : wr.cell? ⟨b, off + k * 2 + 1, none⟩ = some (.int .u64 (bt L k)) := (hbel.cell (by exact hb)).trans (hd k (by omega))
      obtain ⟨v0, v1, o0, o1⟩ := pair_cells hown k hlt
      have f0 := hown.frozenAt (k * 2)
      have f1 := hown.frozenAt (k * 2 + 1)
      go_wp2
      go_region
      go_wp2
      go_roundw
      case rel => exact ⟨k + 1, by omega, by go_num, (below_two hbel (Nat.le_refl _) _ _).drew, pair_step hown hL hlt HA.out⟩
      case measure => simp [intOf]; omega
    · go_wp2
      go_ret
      exact ⟨_, rfl, pair_done hown hL hlt HA.out, hbel⟩

set_option maxHeartbeats 400000 in
theorem copy51_nil (w : World) : Calls Try.prog 51 #[.slice none 0 0] w fun e w' => e = .returned (.slice none 0 0) ∧ w' = w := by
  have hq := q51
  go_enter Try.func51, Try.ntmps51
  go_wp2
  go_ret
  exact ⟨rfl, rfl⟩

set_option maxHeartbeats 400000 in
theorem copy51_zero (x : Addr) (c : Nat) (w : World) : Calls Try.prog 51 #[.slice (some x) 0 c] w fun e w' => ∃ v, e = .returned v ∧ Prs w' v [] ∧ Below w.heap.size w w' := by
  obtain ⟨i0, hi, hz0, hz1, hz2⟩ := info_parts info31
  have hq := q51
  go_enter Try.func51, Try.ntmps51
  go_wp2_with (at_make; refine wpList_make_full _ rfl _ _ 26 rfl w.heap.size 31 i0 (.agg #[.int .i64 0, .int .u64 0]) 2 Try.underlying26 hi hz0 hz1 _ _ _ _ 0 rfl rfl rfl rfl ?b2 ?b3 (Nat.le_refl _) ?_)
  case b2 => rw [hz2]; omega
  case b3 => unfold maxLen; omega
  intro w0 hown0 hgrow0
  clear hq hi hz0 hz1 hz2
  go_wp2
  go_loopw [4] (fun i wr => i = .int .i64 0 ∧ wr = w0) (fun _ _ => 0)
  case atStart => exact ⟨rfl, rfl⟩
  case round =>
    obtain ⟨rfl, rfl⟩ := hrel
    go_wp2
    go_ret
    exact ⟨_, rfl, pair_done (k := 0) hown0 rfl (by omega) (fun j h => by omega), (Below.refl _ _).grown hgrow0 (Nat.le_refl _) (fun k h => by cases h)⟩

theorem copy51 {v : Value} {L : List (Int × Int)} (w : World) (hs : L.length ≤ 1048576) (h : Prs w v L) :
    Calls Try.prog 51 #[v] w fun e w' => ∃ v', e = .returned v' ∧ Prs w' v' L ∧ Below w.heap.size w w' := by
  rcases h.cases with ⟨rfl, rfl⟩ | ⟨x, cap, rfl, _, rfl⟩ | ⟨b, off, cap, hn, rfl, h1, h2, hb, hc, hd⟩
  · exact (copy51_nil w).mono fun e w' ⟨he, hw⟩ => ⟨_, he, hw ▸ Rd.nil _ 2, hw ▸ Below.refl _ _⟩
  · exact copy51_zero x cap w
  · exact copy51_pos b off L.length cap L w rfl hs hb hc hd

end Go.Proofs.Qxb6600021a
