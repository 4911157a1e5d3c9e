/-
  sameZZ (20), zzBytes (19, 12).
-/
import Derived.Test.Qxb6600021aPlain
namespace Go.Proofs.Qxb6600021a
open Go.RowKit
set_option linter.unusedVariables false

theorem ix_ext {L M : List (Int × Int)} (hl : L.length = M.length) (h : ∀ i, i < L.length → ix L i = ix M i ∧ bt L i = bt M i) : L = M := by
  apply List.ext_getElem hl
  intro i h1 h2
  have := h i h1
  have e1 : L.getD i (0, 0) = L[i] := by simp [List.getD, h1]
  have e2 : M.getD i (0, 0) = M[i] := by simp [List.getD, h2]
  unfold ix bt at this
  rw [e1, e2] at this
  exact Prod.ext this.1 this.2

set_option maxHeartbeats 400000 in
set_option maxRecDepth 100000 in
theorem same20_pos (b off c b2 off2 c2 n : Nat) (L M : List (Int × Int)) (w : World) (hL : L.length = n) (hM : M.length = n) (hn : n ≤ maxLen) (hb : b < w.heap.size) (hb2 : b2 < w.heap.size)
    (hc : ∀ i, i < n → w.cell? ⟨b, off + i * 2, none⟩ = some (.int .i64 (ix L i))) (hd : ∀ i, i < n → w.cell? ⟨b, off + i * 2 + 1, none⟩ = some (.int .u64 (bt L i)))
    (hc2 : ∀ i, i < n → w.cell? ⟨b2, off2 + i * 2, none⟩ = some (.int .i64 (ix M i))) (hd2 : ∀ i, i < n → w.cell? ⟨b2, off2 + i * 2 + 1, none⟩ = some (.int .u64 (bt M i))) :
    Calls Try.prog 20 #[.slice (some ⟨b, off, none⟩) n c, .slice (some ⟨b2, off2, none⟩) n c2] w fun e w' => e = .returned (.bool (decide (L = M))) ∧ Below w.heap.size w w' := by
  unfold maxLen at hn
  have HL : Hid (L.length = n) := hL
  have HM : Hid (M.length = n) := hM
  clear hL hM
  go_enter Try.func20, Try.ntmps20
  go_wp2
  go_loopw [5] (fun i wr => ∃ k : Nat, k ≤ n ∧ i = .int .i64 k ∧ Below w.heap.size w wr ∧ ∀ j, j < k → ix L j = ix M j ∧ bt L j = bt M j) (fun i _ => n - (intOf i).toNat)
  case atStart => exact ⟨0, by omega, rfl, Below.refl _ _, fun j h => by omega⟩
  case round =>
    obtain ⟨k, hk, rfl, hbel, hall⟩ := hrel
    have HA : Hid (∀ j, j < k → ix L j = ix M j ∧ bt L j = bt M j) := hall
    clear hall
    by_cases hlt : k < n
    · have ca := (hbel.cell (p := ⟨b, off + k * 2, none⟩) (by exact hb)).trans (hc k hlt)
      have da := (hbel.cell (p := ⟨b, off + k * 2 + 1, none⟩) (by exact hb)).trans (hd k hlt)
      have cb := (hbel.cell (p := ⟨b2, off2 + k * 2, none⟩) (by exact hb2)).trans (hc2 k hlt)
      have db := (hbel.cell (p := ⟨b2, off2 + k * 2 + 1, none⟩) (by exact hb2)).trans (hd2 k hlt)
      clear hc hd hc2 hd2
      by_cases h1 : ix L k = ix M k
      · have t1 : (ix L k != ix M k) = false := by simp [h1]
        by_cases h2 : bt L k = bt M k
        · have t2 : (bt L k != bt M k) = false := by simp [h2]
          have H1 : Hid (ix L k = ix M k) := h1
          have H2 : Hid (bt L k = bt M k) := h2
          clear h1 h2
          go_wp2
          go_quiet (fail)
          go_wp2
          go_roundw
          case rel =>
            refine ⟨k + 1, by omega, by go_num, below_drewN hbel _, fun j hj => ?_⟩
            by_cases e : j = k
            · rw [e]; exact ⟨H1.out, H2.out⟩
            · exact HA.out j (by omega)
          case measure => simp [intOf]; omega
        · have t2 : (bt L k != bt M k) = true := by simp [h2]
          have H1 : Hid (ix L k = ix M k) := h1
          clear h1
          go_wp2
          go_quiet (fail)
          go_wp2
          go_ret
          exact ⟨ret_bool (decide_eq_false (fun h => h2 (by rw [h]))).symm, below_drewN hbel _⟩
      · have t1 : (ix L k != ix M k) = true := by simp [h1]
        go_wp2
        go_quiet (fail)
        go_wp2
        go_ret
        exact ⟨ret_bool (decide_eq_false (fun h => h1 (by rw [h]))).symm, below_drewN hbel _⟩
    · go_wp2
      go_ret
      exact ⟨ret_bool (decide_eq_true (ix_ext (by rw [HL.out, HM.out]) (fun j hj => HA.out j (by rw [HL.out] at hj; omega)))).symm, hbel⟩

set_option maxHeartbeats 400000 in
theorem same20_len (a a2 : Option Addr) (c c2 n m : Nat) (w : World) (hn : n ≤ maxLen) (hm : m ≤ maxLen) (hne : n ≠ m) :
    Calls Try.prog 20 #[.slice a n c, .slice a2 m c2] w fun e w' => e = .returned (.bool false) ∧ Below w.heap.size w w' := by
  unfold maxLen at hn hm
  have t1 : ((n : Int) != (m : Int)) = true := by simp; omega
  clear hne
  go_enter Try.func20, Try.ntmps20
  go_wp2
  go_ret
  exact ⟨rfl, Below.refl _ _⟩

set_option maxHeartbeats 400000 in
theorem same20_zero (a a2 : Option Addr) (c c2 : Nat) (w : World) :
    Calls Try.prog 20 #[.slice a 0 c, .slice a2 0 c2] w fun e w' => e = .returned (.bool true) ∧ Below w.heap.size w w' := by
  go_enter Try.func20, Try.ntmps20
  go_wp2
  go_loopw [5] (fun i wr => i = .int .i64 0 ∧ wr = w) (fun _ _ => 0)
  case atStart => exact ⟨rfl, rfl⟩
  case round =>
    obtain ⟨rfl, rfl⟩ := hrel
    go_wp2
    go_ret
    exact ⟨rfl, Below.refl _ _⟩

theorem same20 {v u : Value} {L M : List (Int × Int)} (w : World) (h : Prs w v L) (g : Prs w u M) :
    Calls Try.prog 20 #[v, u] w fun e w' => e = .returned (.bool (decide (L = M))) ∧ Below w.heap.size w w' := by
  by_cases hl : L.length = M.length
  · by_cases h0 : L = []
    · subst h0
      have hM : M = [] := List.eq_nil_of_length_eq_zero (by simpa using hl.symm)
      subst hM
      obtain ⟨a, c, rfl, _⟩ := Rd.shape h
      obtain ⟨a2, c2, rfl, _⟩ := Rd.shape g
      exact same20_zero a a2 c c2 w
    · have h0' : 0 < L.length := by cases L with | nil => exact absurd rfl h0 | cons _ _ => simp
      rcases h.cases with ⟨h1, _⟩ | ⟨x, cap, h1, _⟩ | ⟨b, off, cap, hn, rfl, h1, h2, hb, hc, hd⟩
      · exact absurd h1 h0
      · exact absurd h1 h0
      rcases g.cases with ⟨g1, _⟩ | ⟨x, cap2, g1, _⟩ | ⟨b2, off2, cap2, hm, rfl, g1, g2, gb, gc, gd⟩
      · subst g1; simp at hl; exact absurd hl h0
      · subst g1; simp at hl; exact absurd hl h0
      rw [← hl] at gc gd ⊢
      exact same20_pos b off cap b2 off2 cap2 L.length L M w rfl hl.symm (Nat.le_trans h1 h2) hb gb hc hd gc gd
  · obtain ⟨a, c, rfl, h1⟩ := Rd.shape h
    obtain ⟨a2, c2, rfl, h2⟩ := Rd.shape g
    have e : decide (L = M) = false := decide_eq_false (fun h => hl (by rw [h]))
    rw [e]
    exact same20_len a a2 c c2 L.length M.length w h1 h2 hl

set_option maxHeartbeats 400000 in
theorem zzb19 (a b : Option Addr) (n m c d : Nat) (w : World) (hn : n ≤ maxLen) (hm : m ≤ maxLen) :
    Calls Try.prog 19 #[.slice a n c, .slice b m d] w fun e w' => e = .returned (.bool (decide (n + m ≤ 1048576))) ∧ w' = w := by
  unfold maxLen at hn hm
  by_cases h1 : n ≤ 1048576
  · by_cases h2 : m ≤ 1048576
    · by_cases h3 : n + m ≤ 1048576
      · go_enter Try.func19, Try.ntmps19
        go_wp2
        go_ret
        exact ⟨by simp [h3], rfl⟩
      · go_enter Try.func19, Try.ntmps19
        go_wp2
        go_ret
        exact ⟨by simp [h3], rfl⟩
    · go_enter Try.func19, Try.ntmps19
      go_wp2
      go_ret
      exact ⟨by simp; omega, rfl⟩
  · go_enter Try.func19, Try.ntmps19
    go_wp2
    go_ret
    exact ⟨by simp; omega, rfl⟩

set_option maxHeartbeats 400000 in
theorem zzb12 (a b : Option Addr) (n m c d : Nat) (w : World) (hn : n ≤ maxLen) (hm : m ≤ maxLen) :
    Calls Try.prog 12 #[.slice a n c, .slice b m d] w fun e w' => e = .returned (.bool (decide (n + m ≤ 1048576))) ∧ w' = w := by
  unfold maxLen at hn hm
  by_cases h1 : n ≤ 1048576
  · by_cases h2 : m ≤ 1048576
    · by_cases h3 : n + m ≤ 1048576
      · go_enter Try.func12, Try.ntmps12
        go_wp2
        go_ret
        exact ⟨by simp [h3], rfl⟩
      · go_enter Try.func12, Try.ntmps12
        go_wp2
        go_ret
        exact ⟨by simp [h3], rfl⟩
    · go_enter Try.func12, Try.ntmps12
      go_wp2
      go_ret
      exact ⟨by simp; omega, rfl⟩
  · go_enter Try.func12, Try.ntmps12
    go_wp2
    go_ret
    exact ⟨by simp; omega, rfl⟩

end Go.Proofs.Qxb6600021a
