/-
  add (54) whole; ZZRunAdd (29).
-/
import Derived.Test.Qxb6600021aAdd
import Derived.Test.Qxb6600021aR8
import Derived.Test.Qxb6600021aR10
namespace Go.Proofs.Qxb6600021a
open Go.RowKit
set_option linter.unusedVariables false

/-- A run in state s. -/
def RunS (w : World) (base R : Nat) (s : St) : Prop := ∃ vw vc, Run w base R s.ws s.own s.ch vw vc

theorem RunS.below {w w' : World} {base R : Nat} {s : St} (h : RunS w base R s) (hb : Below w.heap.size w w') : RunS w' base R s := by
  obtain ⟨vw, vc, h⟩ := h
  exact ⟨vw, vc, h.below hb⟩

theorem add54 {base R : Nat} {s : St} (i : Nat) (b : Int) (w : World) (h : RunS w base R s) (hs : Inv s) (hi : i ≤ 65536) :
    Calls Try.prog 54 #[.pointer (some ⟨R, 0, none⟩), .int .i64 (i : Int), .int .u64 b] w fun e w' => e = .returned (.tuple #[]) ∧ RunS w' base R (addSt s i b) ∧ Below base w w' := by
  obtain ⟨vw, vc, h⟩ := h
  obtain ⟨ws, own, ch⟩ := s
  have hw : ws.length ≤ 65537 := hs.wsl
  have hq : ch.length ≤ 8 := hs.few
  have hb := len_bounds _ hs
  have hlow := lead_low ch i
  have hhigh := lead_high ch i
  have hle := lead_le ch i
  unfold addSt
  cases own with
  | true =>
    rw [if_pos rfl]
    exact (add54_own i b w h hi (by omega)).mono fun e w' ⟨h1, ⟨v, h2⟩, h3⟩ => ⟨h1, ⟨v, vc, h2⟩, h3⟩
  | false =>
    rw [if_neg (show ¬ (false = true) from by decide)]
    by_cases hf : lead ch i < ch.length ∧ ix ch (lead ch i) = i
    · rw [if_pos hf]
      exact (add54_found i b (lead ch i) w h hi (by omega) hq hf.1 hlow hf.2).mono fun e w' ⟨h1, h2, h3⟩ => ⟨h1, ⟨vw, vc, h2⟩, h3⟩
    · rw [if_neg hf]
      have hhigh' : lead ch i < ch.length → (i : Int) < ix ch (lead ch i) := fun hl => by
        have h1 := hhigh hl
        have h2 : (i : Int) ≠ ix ch (lead ch i) := fun e => hf ⟨hl, e.symm⟩
        omega
      by_cases hbit : andU (wd ws i) b ≠ 0
      · rw [if_pos hbit]
        have hin : i < ws.length := by
          by_cases hin : i < ws.length
          · exact hin
          · rw [wd_out0 hin, andU_zero0] at hbit; exact absurd rfl hbit
        exact (add54_keep i b (lead ch i) w h hi (by omega) hq hle hlow hhigh' hin hbit).mono fun e w' ⟨h1, h2, h3⟩ => ⟨h1, ⟨vw, vc, h2⟩, h3⟩
      · rw [if_neg hbit]
        have hbit : andU (wd ws i) b = 0 := Decidable.of_not_not hbit
        by_cases h8 : ch.length < 8
        · rw [if_pos h8]
          exact (add54_insert i b (lead ch i) w h hi (by omega) h8 hle hlow hhigh' hbit).mono fun e w' ⟨h1, ⟨v, h2⟩, h3⟩ => ⟨h1, ⟨vw, v, h2⟩, h3⟩
        · rw [if_neg h8]
          have hrl : (ws.length : Int) ≤ runLen ws ch := hb.1
          have hrb : runLen ws ch ≤ 65537 := hb.2.1
          have hix : ∀ j, j < ch.length → ix ch j < runLen ws ch := hb.2.2
          have hrn : ∀ j, j < ch.length → 0 ≤ ix ch j ∧ ix ch j ≤ 65536 := hs.rng
          have h8' : 8 ≤ ch.length := by have h8 : ¬ ch.length < 8 := h8; omega
          have e1 : runLen ws ch = ((runLen ws ch).toNat : Int) := by omega
          have e2 : ws.length ≤ (runLen ws ch).toNat := by omega
          have e3 : (runLen ws ch).toNat ≤ 1048576 := by omega
          have e4 : ws.length ≤ 1048576 := by omega
          exact (add54_grow i b (lead ch i) w h hi e4 h8' hle hlow hhigh' hbit hq (fun j hj => ⟨(hrn j hj).1, (hrn j hj).2, hix j hj⟩) (runLen ws ch).toNat e1 e2 e3 (newLen ws ch i) rfl).mono
            fun e w' ⟨h1, ⟨v, h2⟩, h3⟩ => ⟨h1, ⟨v, _, h2⟩, h3⟩

set_option maxHeartbeats 400000 in
theorem zadd29 {base R : Nat} {s : St} (i : Nat) (b : Int) (w : World) (h : RunS w base R s) (hs : Inv s) (hi : i ≤ 65536) :
    Calls Try.prog 29 #[.pointer (some ⟨R, 0, none⟩), .int .i64 (i : Int), .int .u64 b] w fun e w' => e = .returned (.tuple #[]) ∧ RunS w' base R (addSt s i b) ∧ Below base w w' := by
  go_enter Try.func29, Try.ntmps29
  go_wp2_with fail
  refine (add54 i b w h hs hi).mono ?_
  rintro e w1 ⟨rfl, r1, b1⟩
  go_wp2
  go_end0
  exact ⟨rfl, r1, b1⟩

end Go.Proofs.Qxb6600021a
