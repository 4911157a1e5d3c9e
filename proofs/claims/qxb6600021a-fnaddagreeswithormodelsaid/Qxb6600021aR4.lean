/-
  add (54) on a run that owns its words.
-/
import Derived.Test.Qxb6600021aR3
namespace Go.Proofs.Qxb6600021a
open Go.RowKit
set_option linter.unusedVariables false

theorem new_one {w : World} {B : Nat} (hB : w.heap.size = B) (x : Value) (t : TypeId) : ∀ j u, [x][j]? = some u → (w.alloc (.cells #[x] t)).cell? ((⟨B, 0, none⟩ : Addr).add j) = some u := by
  subst hB
  intro j u hu
  rw [Addr.add_lit, Nat.zero_add]
  rw [cell_of_row _ w.heap.size j #[x] t (0, 0) (heap_alloc_new w _)]
  simpa using hu

theorem one_oneCell {x : Int} {k : IntKind} : ∀ u ∈ [Value.int k x], u.oneCell' = true := by
  intro u hu
  simp at hu
  subst hu
  rfl

set_option maxHeartbeats 1000000 in
set_option maxRecDepth 100000 in
theorem add54_own {base R : Nat} {ws : List Int} {ch : List (Int × Int)} {vw vc : Value} (i : Nat) (b : Int) (w : World) (h : Run w base R ws true ch vw vc) (hi : i ≤ 65536) (hn : ws.length ≤ 1048576) :
    Calls Try.prog 54 #[.pointer (some ⟨R, 0, none⟩), .int .i64 (i : Int), .int .u64 b] w fun e w' => e = .returned (.tuple #[]) ∧ (∃ v, Run w' base R (setW (pad ws (i + 1)) i b) true ch v vc) ∧ Below base w w' := by
  obtain ⟨i0, hi0, hz0, hz1, hz2⟩ := info_parts info29
  obtain ⟨c0, c1, c2, f0, f1, f2⟩ := h.cells
  have hRs := h.lt
  have hle := h.le
  have HR : Hid _ := h
  clear h c0 c2 f0 f1 f2
  go_enter Try.func54, Try.ntmps54
  go_wp2
  go_loopg [15] (i + 1 - ws.length) (fun k s wr => ∃ m v, m + k = i + 1 - ws.length ∧ Run wr base R (ws ++ zeros m) true ch v vc ∧ Below base w wr)
  case atStart => exact ⟨0, vw, by omega, by simpa [zeros] using HR.out, Below.refl _ _⟩
  case round =>
    obtain ⟨m, v, hmk, hrun, hbel⟩ := hrel
    clear c1
    obtain ⟨c0, c1, c2, f0, f1, f2⟩ := hrun.cells
    obtain ⟨a, cp, hv, hcp, hcm, hg⟩ := own_form hrun.words
    have HRun : Hid (Run wr base R (ws ++ zeros m) true ch v vc) := hrun
    have hwo := hrun.words
    have hRs' := hrun.lt
    obtain ⟨p, hp⟩ : ∃ p, p = (ws ++ zeros m).length := ⟨_, rfl⟩
    rw [← hp] at hv hcp hg hwo
    subst hv
    have hp2 : p = ws.length + m := by rw [hp]; simp [zeros]
    have HP : Hid (p = (ws ++ zeros m).length) := hp
    have HP2 : Hid (p = ws.length + m) := hp2
    have HMK : Hid (m + gk = i + 1 - ws.length) := hmk
    have hp3 : p ≤ 1114113 := by omega
    have hgk : p ≤ i → 0 < gk := by omega
    have hgk2 : ¬ p ≤ i → i < p := by omega
    clear hp hp2 hrun hmk
    by_cases hlt : p ≤ i
    · go_wp2_with (at_builtin; refine wpList_append_own _ rfl (.tmp 26) (.tmp 27) 38 rfl base 29 i0 (.int .u64 0) 1 8 Try.underlying38 hi0 hz0 hz1 hz2 rfl (by decide) _ _ _ rfl (hwo.alloc _) ⟨wr.heap.size, 0, none⟩ 1 1 [.int .u64 0] rfl rfl (new_one rfl _ _) one_oneCell ?b1 ?b2 ?b3 ?_)
      case b1 => unfold maxLen; omega
      case b2 => omega
      case b3 => simp; omega
      intro v' w1 hown' hgrow hnil
      obtain ⟨a', c', hv', _, _, hg'⟩ := own_form hown'
      obtain ⟨g', ha', hbg', _⟩ := hg' (by omega)
      subst ha'
      subst hv'
      have hkept := (run_kept HRun.out hgrow HRun.out.apart.1).1
      have e0 := cell_of_row w1 R 0 _ 87 (0, 0) hkept
      have e1 : w1.frozen? ⟨R, 0, none⟩ = false := frozen_of_row w1 R 0 _ 87 hkept
      have e2 : w1.cell? ⟨R, 0, none⟩ = some (.slice a p cp) := by rw [e0]; rfl
      have RR := run_app_words HRun.out (by rw [← HP.out]; exact hown') hgrow
      have BB : Below base w w1 := (hbel.alloc (by omega) _).grown hgrow (by simp; omega) (fun k hk => (hwo.lt k hk).1)
      have HRR : Hid _ := RR
      clear hown' hgrow hnil hkept e0 hwo hg RR c0 c1 c2 f0 f1 f2
      go_wp2
      go_roundg (gk - 1)
      case measure => have := hgk hlt; omega
      case rel =>
        refine ⟨m + 1, .slice (some ⟨g', 0, none⟩) (p + 1) c', by have := HMK.out; have := hgk hlt; omega, ?_, below_run BB hle⟩
        rw [zeros_snoc, ← List.append_assoc]
        exact HRR.out
    · have hip := hgk2 hlt
      obtain ⟨g, ha, hbg, hgs⟩ := hg (by omega)
      subst ha
      have e0 : wr.cell? ⟨g, i, none⟩ = some (.int .u64 (wd (ws ++ zeros m) i)) := by rw [hwo.cellAt i (by omega)]; exact u64s_at _ _ (by rw [← HP.out]; exact hip)
      have e1 := hwo.frozenAt i
      clear hwo hg
      go_wp2
      try simp only [Exit.inBlock, Exit.then]
      refine bodyPost_ret (results_none rfl _ _ _) rfl ?_
      have hpad : pad ws (i + 1) = ws ++ zeros m := by
        unfold pad
        have := HMK.out
        have := HP2.out
        have e : i + 1 - ws.length = m := by omega
        rw [e]
      refine ⟨rfl, ⟨.slice (some ⟨g, 0, none⟩) p cp, ?_⟩, below_run hbel hbg⟩
      rw [hpad]
      exact run_set_word HRun.out HP.out.symm

end Go.Proofs.Qxb6600021a
