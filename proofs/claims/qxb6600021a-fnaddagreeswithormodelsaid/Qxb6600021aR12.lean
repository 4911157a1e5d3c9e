/-
  The scripts' states; zzBytes (35, 22).
-/
import Derived.Test.Qxb6600021aR11
namespace Go.Proofs.Qxb6600021a
open Go.RowKit
set_option linter.unusedVariables false

/-- The states of a run under a script of adds. -/
def steps (s : St) (is bs : List Int) : Nat → St
  | 0 => s
  | k + 1 => addSt (steps s is bs k) (wd is k).toNat (wd bs k)

theorem steps_inv {s : St} {is bs : List Int} {m : Nat} (h : Inv s) (hr : ∀ k, k < m → 0 ≤ wd is k ∧ wd is k ≤ 65536) : ∀ k, k ≤ m → Inv (steps s is bs k) := by
  intro k
  induction k with
  | zero => intro _; exact h
  | succ k ih =>
    intro hk
    have := hr k (by omega)
    exact (add_shape _ (ih (by omega)) _ _ (by omega)).1
theorem RunS.drew {w : World} {base R : Nat} {s : St} (h : RunS w base R s) : RunS w.drew base R s := by
  obtain ⟨vw, vc, h⟩ := h
  exact ⟨vw, vc, h.drew⟩
/-- The shape of a slice of pairs: where it has an element, its address and its cells. -/
theorem Prs.form2 {w : World} {v : Value} {L : List (Int × Int)} (h : Prs w v L) : ∃ a n c, v = .slice a n c ∧ n = L.length ∧
    (0 < n → ∃ b off, a = some ⟨b, off, none⟩ ∧ b < w.heap.size ∧
      (∀ i, i < n → w.cell? ⟨b, off + i * 2, none⟩ = some (.int .i64 (ix L i))) ∧ ∀ i, i < n → w.cell? ⟨b, off + i * 2 + 1, none⟩ = some (.int .u64 (bt L i))) := by
  rcases h.cases with ⟨rfl, rfl⟩ | ⟨x, cap, rfl, _, rfl⟩ | ⟨b, off, cap, hn, rfl, h1, h2, hb, hc, hd⟩
  · exact ⟨none, 0, 0, rfl, rfl, fun h => absurd h (by omega)⟩
  · exact ⟨some x, 0, cap, rfl, rfl, fun h => absurd h (by omega)⟩
  · exact ⟨_, _, cap, rfl, rfl, fun _ => ⟨b, off, rfl, hb, hc, hd⟩⟩
theorem runLen_nil (ws : List Int) : runLen ws [] = (ws.length : Int) := by simp [runLen]

set_option maxHeartbeats 400000 in
theorem zzb35 (a b c : Option Addr) (n m p ca cb cc : Nat) (o : Bool) (w : World) (hn : n ≤ maxLen) (hm : m ≤ maxLen) (hp : p ≤ maxLen) :
    Calls Try.prog 35 #[.slice a n ca, .bool o, .slice b m cb, .slice c p cc] w fun e w' => e = .returned (.bool (decide (n + m + p ≤ 1048576))) ∧ w' = w := by
  unfold maxLen at hn hm hp
  by_cases h1 : n ≤ 1048576
  · by_cases h2 : m ≤ 1048576
    · by_cases h3 : n + m ≤ 1048576
      · by_cases h4 : p ≤ 1048576
        · by_cases h5 : n + m + p ≤ 1048576
          · go_enter Try.func35, Try.ntmps35
            go_wp2
            go_ret
            exact ⟨ret_bool (by simp; omega), rfl⟩
          · go_enter Try.func35, Try.ntmps35
            go_wp2
            go_ret
            exact ⟨ret_bool (by simp; omega), rfl⟩
        · go_enter Try.func35, Try.ntmps35
          go_wp2
          go_ret
          exact ⟨ret_bool (by simp; omega), rfl⟩
      · go_enter Try.func35, Try.ntmps35
        go_wp2
        go_ret
        exact ⟨ret_bool (by simp; omega), rfl⟩
    · go_enter Try.func35, Try.ntmps35
      go_wp2
      go_ret
      exact ⟨ret_bool (by simp; omega), rfl⟩
  · go_enter Try.func35, Try.ntmps35
    go_wp2
    go_ret
    exact ⟨ret_bool (by simp; omega), rfl⟩

set_option maxHeartbeats 400000 in
theorem zzb22 (a b c : Option Addr) (n m p ca cb cc : Nat) (o : Bool) (w : World) (hn : n ≤ maxLen) (hm : m ≤ maxLen) (hp : p ≤ maxLen) :
    Calls Try.prog 22 #[.slice a n ca, .bool o, .slice b m cb, .slice c p cc] w fun e w' => e = .returned (.bool (decide (n + m + p ≤ 1048576))) ∧ w' = w := by
  unfold maxLen at hn hm hp
  by_cases h1 : n ≤ 1048576
  · by_cases h2 : m ≤ 1048576
    · by_cases h3 : n + m ≤ 1048576
      · by_cases h4 : p ≤ 1048576
        · by_cases h5 : n + m + p ≤ 1048576
          · go_enter Try.func22, Try.ntmps22
            go_wp2
            go_ret
            exact ⟨ret_bool (by simp; omega), rfl⟩
          · go_enter Try.func22, Try.ntmps22
            go_wp2
            go_ret
            exact ⟨ret_bool (by simp; omega), rfl⟩
        · go_enter Try.func22, Try.ntmps22
          go_wp2
          go_ret
          exact ⟨ret_bool (by simp; omega), rfl⟩
      · go_enter Try.func22, Try.ntmps22
        go_wp2
        go_ret
        exact ⟨ret_bool (by simp; omega), rfl⟩
    · go_enter Try.func22, Try.ntmps22
      go_wp2
      go_ret
      exact ⟨ret_bool (by simp; omega), rfl⟩
  · go_enter Try.func22, Try.ntmps22
    go_wp2
    go_ret
    exact ⟨ret_bool (by simp; omega), rfl⟩

end Go.Proofs.Qxb6600021a
