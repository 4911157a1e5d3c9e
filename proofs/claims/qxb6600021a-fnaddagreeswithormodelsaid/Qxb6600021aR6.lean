/-
  add (54) on a run that shares its words: the bit is there already; a new changed word.
-/
import Derived.Test.Qxb6600021aR5
namespace Go.Proofs.Qxb6600021a
open Go.RowKit
set_option linter.unusedVariables false

set_option maxHeartbeats 1000000 in
set_option maxRecDepth 100000 in
theorem add54_keep {base R : Nat} {ws : List Int} {ch : List (Int × Int)} {vw vc : Value} (i : Nat) (b : Int) (k0 : Nat) (w : World) (h : Run w base R ws false ch vw vc) (hi : i ≤ 65536) (hn : ws.length ≤ 1048576) (hq : ch.length ≤ 8)
    (hk0 : k0 ≤ ch.length) (hlow : ∀ j, j < k0 → ix ch j < i) (hhigh : k0 < ch.length → (i : Int) < ix ch k0) (hin : i < ws.length) (hbit : andU (wd ws i) b ≠ 0) :
    Calls Try.prog 54 #[.pointer (some ⟨R, 0, none⟩), .int .i64 (i : Int), .int .u64 b] w fun e w' => e = .returned (.tuple #[]) ∧ Run w' base R ws false ch vw vc ∧ Below base w w' := by
  have tb : (bits .and .u64 (wd ws i) b != 0) = true := by simp only [bne_iff_ne]; exact hbit
  clear hbit
  obtain ⟨c0, c1, c2, f0, f1, f2⟩ := h.cells
  obtain ⟨aw, cw, hvw, hcw1, hcw2, hgw⟩ := own_form h.words
  obtain ⟨ac, cc, hvc, hcp, hcm, hg⟩ := own_form h.chg
  have hcw := h.chg
  have hww := h.words
  have hRs := h.lt
  have hle := h.le
  have HR : Hid (Run w base R ws false ch vw vc) := h
  obtain ⟨q, hq'⟩ : ∃ q, q = ch.length := ⟨_, rfl⟩
  obtain ⟨n, hn'⟩ : ∃ n, n = ws.length := ⟨_, rfl⟩
  rw [← hq'] at hvc hcp hq hk0 hcw hg hhigh
  rw [← hn'] at hvw hcw1 hgw hww hn hin
  subst hvc hvw
  have HQ : Hid (q = ch.length) := hq'
  have HN : Hid (n = ws.length) := hn'
  have hx : ∀ j, j < q → ∃ g, ac = some ⟨g, 0, none⟩ ∧ w.cell? ⟨g, j * 2, none⟩ = some (.int .i64 (ix ch j)) := fun j hj => by
    obtain ⟨g, rfl, _, _⟩ := hg (by omega)
    exact ⟨g, rfl, by rw [hcw.cellAt _ (by omega)]; exact (cellsL_ix ch j (by rw [← HQ.out]; exact hj)).1⟩
  have hsh : i < n → ∃ g, aw = some ⟨g, 0, none⟩ ∧ w.cell? ⟨g, i, none⟩ = some (.int .u64 (wd ws i)) := fun hj => by
    obtain ⟨g, rfl, _, _⟩ := hgw (by omega)
    exact ⟨g, rfl, by rw [hww.cellAt _ (by omega)]; exact u64s_at ws i (by rw [← HN.out]; exact hj)⟩
  have HX : Hid _ := hx
  have HSh : Hid _ := hsh
  have HLow : Hid _ := hlow
  have HHigh : Hid _ := hhigh
  have HG : Hid _ := hg
  have HCW : Hid (w.ownsRow base 118 2 (.slice ac q cc) q (cellsL ch)) := hcw
  clear h hq' hn' hg hcw hx hlow hhigh hsh hgw hww
  go_enter Try.func54, Try.ntmps54
  go_wp2
  go_loopw [6] (fun s wr => ∃ k : Nat, k ≤ k0 ∧ s = .int .i64 k ∧ wr = w) (fun s _ => k0 - (intOf s).toNat)
  case atStart => exact ⟨0, by omega, rfl, rfl⟩
  case round =>
    obtain ⟨k, hk, rfl, rfl⟩ := hrel
    by_cases hlt : k < k0
    · obtain ⟨g, hac, hxj⟩ := HX.out k (by omega)
      subst hac
      have hlj := HLow.out k hlt
      go_wp2
      go_roundw
      case rel => exact ⟨k + 1, by omega, by go_num, by trivial⟩
      case measure => simp [intOf]; omega
    · have hkk : k = k0 := by omega
      subst hkk
      clear hlt hk
      obtain ⟨gw, haw, hsw⟩ := HSh.out hin
      subst haw
      by_cases hkq : k < q
      · obtain ⟨g, hac, hxj⟩ := HX.out k hkq
        subst hac
        have hhj := HHigh.out hkq
        have t1 : (ix ch k == (i : Int)) = false := beq_eq_false_iff_ne.2 (by omega)
        have t2 : ¬ ix ch k < (i : Int) := by omega
        go_wp2
        try simp only [Exit.inBlock, Exit.then]
        refine bodyPost_ret (results_none rfl _ _ _) rfl ?_
        exact ⟨rfl, HR.out, Below.refl _ _⟩
      · have t0 : decide ((k : Int) < (q : Int)) = false := decide_eq_false (by omega)
        go_wp2
        try simp only [Exit.inBlock, Exit.then]
        refine bodyPost_ret (results_none rfl _ _ _) rfl ?_
        exact ⟨rfl, HR.out, Below.refl _ _⟩

end Go.Proofs.Qxb6600021a
