/-
  A cell turned from type to type (45, 56, 58); edges and marks turned (42, 43).
-/
import Derived.Test.Qxb6600021aF1
import Derived.Deep.DeepCutAuto
namespace Go.Proofs.Qxb6600021a
open Go.RowKit
set_option linter.unusedVariables false

theorem size73 : (Try.prog.info? 73).map (·.size) = some 3 := by kernel_rfl
theorem size69 : (Try.prog.info? 69).map (·.size) = some 3 := by kernel_rfl
theorem size99 : (Try.prog.info? 99).map (·.size) = some 3 := by kernel_rfl
theorem below_two_allocs {w : World} (A B : Obj) : Below w.heap.size w ((w.alloc A).alloc B) := ((Below.refl _ _).alloc (Nat.le_refl _) A).alloc (by simp) B

set_option maxHeartbeats 400000 in
set_option maxRecDepth 100000 in
theorem cel58 (w : World) (c : Cel) : Calls Try.prog 58 #[cv c] w fun e w' => e = .returned (cv c) ∧ Below w.heap.size w w' := by
  go_enter Try.func58, Try.ntmps58
  go_wp2
  try simp only [Exit.inBlock, Exit.then]
  refine bodyPost_ret (v := cv c) ?_ rfl ⟨rfl, below_two_allocs _ _⟩
  exact results_cell_row rfl _ _ (w.heap.size + 1) 73 _ (0, 0) _ rfl (heap_alloc2_new _ _ _) Try.underlying73 rfl size73

set_option maxHeartbeats 400000 in
set_option maxRecDepth 100000 in
theorem cel56 (w : World) (c : Cel) : Calls Try.prog 56 #[cv c] w fun e w' => e = .returned (cv c) ∧ Below w.heap.size w w' := by
  go_enter Try.func56, Try.ntmps56
  go_wp2
  try simp only [Exit.inBlock, Exit.then]
  refine bodyPost_ret (v := cv c) ?_ rfl ⟨rfl, below_two_allocs _ _⟩
  exact results_cell_row rfl _ _ (w.heap.size + 1) 99 _ (0, 0) _ rfl (heap_alloc2_new _ _ _) Try.underlying99 rfl size99

set_option maxHeartbeats 400000 in
set_option maxRecDepth 100000 in
theorem cel45 (w : World) (c : Cel) : Calls Try.prog 45 #[cv c] w fun e w' => e = .returned (cv c) ∧ Below w.heap.size w w' := by
  go_enter Try.func45, Try.ntmps45
  go_wp2
  try simp only [Exit.inBlock, Exit.then]
  refine bodyPost_ret (v := cv c) ?_ rfl ⟨rfl, below_two_allocs _ _⟩
  exact results_cell_row rfl _ _ (w.heap.size + 1) 69 _ (0, 0) _ rfl (heap_alloc2_new _ _ _) Try.underlying69 rfl size69

theorem info102 : (Try.prog.info? 102).map (fun i => (i.zero, i.size, i.bytes)) = some (some z6, 6, 48) := by kernel_rfl

set_option maxHeartbeats 2000000 in
set_option maxRecDepth 100000 in
theorem zz42_some (x : Addr) (n c : Nat) (L : List Edge) (w : World) (hL : L.length = n) (h1 : n ≤ 1048576)
    (hf : 0 < n → ∃ b off, some x = some (⟨b, off, none⟩ : Addr) ∧ b < w.heap.size ∧ ∀ k, k < n → w.cell? ⟨b, off + k * 6, none⟩ = some (.int .i64 (ke L k).f) ∧ w.cell? ⟨b, off + k * 6 + 1, none⟩ = some (.int .i64 (ke L k).t) ∧ w.cell? ⟨b, off + k * 6 + 2, none⟩ = some (.bool (ke L k).m) ∧ w.cell? ⟨b, off + k * 6 + 3, none⟩ = some (.int .i64 (bk L k).f) ∧ w.cell? ⟨b, off + k * 6 + 4, none⟩ = some (.int .i64 (bk L k).t) ∧ w.cell? ⟨b, off + k * 6 + 5, none⟩ = some (.bool (bk L k).m)) :
    Calls Try.prog 42 #[.slice (some x) n c] w fun e w' => ∃ v, e = .returned v ∧ Egs w' v L ∧ Below w.heap.size w w' := by
  obtain ⟨i0, hi, hz0, hz1, hz2⟩ := info_parts info102
  have hq := q55
  have HF : Hid _ := hf
  clear hf
  go_enter Try.func42, Try.ntmps42
  go_wp2_with (at_make; refine wpList_make_full _ rfl _ _ 64 rfl w.heap.size 102 i0 z6 6 Try.underlying64 hi hz0 hz1 _ _ _ _ n rfl rfl rfl rfl ?b2 ?b3 (Nat.le_refl _) ?_)
  case b2 => rw [hz2]; omega
  case b3 => unfold maxLen; omega
  intro w0 hown0 hgrow0
  clear hq hi hz0 hz1 hz2
  go_wp2
  go_loopg [4] n (fun gn i wr => ∃ k : Nat, k + gn = n ∧ i = .int .i64 k ∧ Below w.heap.size w wr ∧ ∃ cs, wr.ownsRow w.heap.size 102 6 (.slice (some ⟨w.heap.size, 0, none⟩) n n) n cs ∧ ∀ j, j < k * 6 → cs[j]? = (L.flatMap ec)[j]?)
  case atStart => exact ⟨0, by omega, rfl, (Below.refl _ _).grown hgrow0 (Nat.le_refl _) (fun k h => by cases h), _, hown0, fun j h => by omega⟩
  case round =>
    clear hown0 hgrow0
    obtain ⟨k, hkg, rfl, hbel, cs, hown, hall⟩ := hrel
    have HKG : Hid (k + gk = n) := hkg
    have hk : k ≤ n := by omega
    have hgk : k < n → 0 < gk := by omega
    clear hkg
    have HA : Hid (∀ j, j < k * 6 → cs[j]? = (L.flatMap ec)[j]?) := hall
    clear hall
    by_cases hlt : k < n
    · obtain ⟨b, off, hx, hb, hc⟩ := HF.out (by omega)
      obtain rfl := Option.some.inj hx
      obtain ⟨e0, e1, e2, e3, e4, e5⟩ := hc k hlt
      have d0 := (hbel.cell (p := ⟨b, off + k * 6, none⟩) (by exact hb)).trans e0
      have d1 := (hbel.cell (p := ⟨b, off + k * 6 + 1, none⟩) (by exact hb)).trans e1
      have d2 := (hbel.cell (p := ⟨b, off + k * 6 + 2, none⟩) (by exact hb)).trans e2
      have d3 := (hbel.cell (p := ⟨b, off + k * 6 + 3, none⟩) (by exact hb)).trans e3
      have d4 := (hbel.cell (p := ⟨b, off + k * 6 + 4, none⟩) (by exact hb)).trans e4
      have d5 := (hbel.cell (p := ⟨b, off + k * 6 + 5, none⟩) (by exact hb)).trans e5
      obtain ⟨v0, o0⟩ := own_cells hown k hlt 0 (by omega)
      obtain ⟨v1, o1⟩ := own_cells hown k hlt 1 (by omega)
      obtain ⟨v2, o2⟩ := own_cells hown k hlt 2 (by omega)
      obtain ⟨v3, o3⟩ := own_cells hown k hlt 3 (by omega)
      obtain ⟨v4, o4⟩ := own_cells hown k hlt 4 (by omega)
      obtain ⟨v5, o5⟩ := own_cells hown k hlt 5 (by omega)
      rw [Nat.add_zero] at o0
      have f0 := hown.frozenAt (k * 6)
      have f1 := hown.frozenAt (k * 6 + 1)
      have f2 := hown.frozenAt (k * 6 + 2)
      have f3 := hown.frozenAt (k * 6 + 3)
      have f4 := hown.frozenAt (k * 6 + 4)
      have f5 := hown.frozenAt (k * 6 + 5)
      have hbw : b < wr.heap.size := Nat.lt_of_lt_of_le hb hbel.size
      clear hc hx e0 e1 e2 e3 e4 e5
      go_upto_region 7 with fail
      go_region_with (go_at_call 58; refine Calls.mono (cel58 _ _) ?_; rintro e w8 ⟨rfl, b8⟩; have d0 := (b8.cell (p := ⟨b, off + k * 6, none⟩) hbw).trans d0; have d1 := (b8.cell (p := ⟨b, off + k * 6 + 1, none⟩) hbw).trans d1; have d2 := (b8.cell (p := ⟨b, off + k * 6 + 2, none⟩) hbw).trans d2; have d3 := (b8.cell (p := ⟨b, off + k * 6 + 3, none⟩) hbw).trans d3; have d4 := (b8.cell (p := ⟨b, off + k * 6 + 4, none⟩) hbw).trans d4; have d5 := (b8.cell (p := ⟨b, off + k * 6 + 5, none⟩) hbw).trans d5; have hbw := Nat.lt_of_lt_of_le hbw b8.size; (first | have hbel := hbel.trans (b8.mono hbel.size) | have hbel := hbel.drew.trans (b8.mono hbel.size)); have hown := (fun h => own_below h b8) hown; obtain ⟨v0, o0⟩ := own_cells hown k hlt 0 (by omega); obtain ⟨v1, o1⟩ := own_cells hown k hlt 1 (by omega); obtain ⟨v2, o2⟩ := own_cells hown k hlt 2 (by omega); obtain ⟨v3, o3⟩ := own_cells hown k hlt 3 (by omega); obtain ⟨v4, o4⟩ := own_cells hown k hlt 4 (by omega); obtain ⟨v5, o5⟩ := own_cells hown k hlt 5 (by omega); rw [Nat.add_zero] at o0; have f0 := hown.frozenAt (k * 6); have f1 := hown.frozenAt (k * 6 + 1); have f2 := hown.frozenAt (k * 6 + 2); have f3 := hown.frozenAt (k * 6 + 3); have f4 := hown.frozenAt (k * 6 + 4); have f5 := hown.frozenAt (k * 6 + 5))
      all_goals
        go_wp2_with fail
        go_roundg (gk - 1)
        case measure => have := hgk hlt; omega
        case rel => exact ⟨k + 1, by have := HKG.out; have := hgk hlt; omega, by go_num, below_wsets (Nat.le_refl _) (ec (L.getD k (c0, c0))) (k * 6) hbel, _, own_wsets (ec (L.getD k (c0, c0))) (k * 6) hown, row_step ec_length (c0, c0) hL hown.1 hlt HA.out⟩
    · go_wp2
      go_ret
      refine ⟨_, rfl, Rw.ofOwn (base := w.heap.size) (e := 102) ?_, hbel⟩
      rw [hL]
      exact row_done ec_length hown hL hlt HA.out

set_option maxHeartbeats 400000 in
theorem zz42_nil (w : World) : Calls Try.prog 42 #[.slice none 0 0] w fun e w' => e = .returned (.slice none 0 0) ∧ w' = w := by
  have hq := q55
  go_enter Try.func42, Try.ntmps42
  go_wp2
  go_ret
  exact ⟨rfl, rfl⟩

theorem zz42 {v : Value} {L : List Edge} (w : World) (hs : L.length ≤ 1048576) (h : Egs w v L) :
    Calls Try.prog 42 #[v] w fun e w' => ∃ v', e = .returned v' ∧ Egs w' v' L ∧ Below w.heap.size w w' := by
  obtain ⟨a, n, c, rfl, hn, hnil, hc, hf⟩ := Egs.form h
  cases a with
  | none =>
    obtain ⟨rfl, rfl⟩ := hnil rfl
    have e : L = [] := List.eq_nil_of_length_eq_zero hn.symm
    subst e
    exact (zz42_nil w).mono fun e w' ⟨he, hw⟩ => ⟨_, he, Rd.nil _ _, hw ▸ Below.refl _ _⟩
  | some x =>
    subst hn
    exact zz42_some x _ c L w rfl hs hf

theorem info104 : (Try.prog.info? 104).map (fun i => (i.zero, i.size, i.bytes)) = some (some z4, 4, 32) := by kernel_rfl

set_option maxHeartbeats 2000000 in
set_option maxRecDepth 100000 in
theorem zz43_some (x : Addr) (n c : Nat) (L : List Mark) (w : World) (hL : L.length = n) (h1 : n ≤ 1048576)
    (hf : 0 < n → ∃ b off, some x = some (⟨b, off, none⟩ : Addr) ∧ b < w.heap.size ∧ ∀ k, k < n → w.cell? ⟨b, off + k * 4, none⟩ = some (.int .i64 (ma L k).f) ∧ w.cell? ⟨b, off + k * 4 + 1, none⟩ = some (.int .i64 (ma L k).t) ∧ w.cell? ⟨b, off + k * 4 + 2, none⟩ = some (.bool (ma L k).m) ∧ w.cell? ⟨b, off + k * 4 + 3, none⟩ = some (.int .i64 (mt L k))) :
    Calls Try.prog 43 #[.slice (some x) n c] w fun e w' => ∃ v, e = .returned v ∧ Mks w' v L ∧ Below w.heap.size w w' := by
  obtain ⟨i0, hi, hz0, hz1, hz2⟩ := info_parts info104
  have hq := q56
  have HF : Hid _ := hf
  clear hf
  go_enter Try.func43, Try.ntmps43
  go_wp2_with (at_make; refine wpList_make_full _ rfl _ _ 66 rfl w.heap.size 104 i0 z4 4 Try.underlying66 hi hz0 hz1 _ _ _ _ n rfl rfl rfl rfl ?b2 ?b3 (Nat.le_refl _) ?_)
  case b2 => rw [hz2]; omega
  case b3 => unfold maxLen; omega
  intro w0 hown0 hgrow0
  clear hq hi hz0 hz1 hz2
  go_wp2
  go_loopg [4] n (fun gn i wr => ∃ k : Nat, k + gn = n ∧ i = .int .i64 k ∧ Below w.heap.size w wr ∧ ∃ cs, wr.ownsRow w.heap.size 104 4 (.slice (some ⟨w.heap.size, 0, none⟩) n n) n cs ∧ ∀ j, j < k * 4 → cs[j]? = (L.flatMap mc)[j]?)
  case atStart => exact ⟨0, by omega, rfl, (Below.refl _ _).grown hgrow0 (Nat.le_refl _) (fun k h => by cases h), _, hown0, fun j h => by omega⟩
  case round =>
    clear hown0 hgrow0
    obtain ⟨k, hkg, rfl, hbel, cs, hown, hall⟩ := hrel
    have HKG : Hid (k + gk = n) := hkg
    have hk : k ≤ n := by omega
    have hgk : k < n → 0 < gk := by omega
    clear hkg
    have HA : Hid (∀ j, j < k * 4 → cs[j]? = (L.flatMap mc)[j]?) := hall
    clear hall
    by_cases hlt : k < n
    · obtain ⟨b, off, hx, hb, hc⟩ := HF.out (by omega)
      obtain rfl := Option.some.inj hx
      obtain ⟨e0, e1, e2, e3⟩ := hc k hlt
      have d0 := (hbel.cell (p := ⟨b, off + k * 4, none⟩) (by exact hb)).trans e0
      have d1 := (hbel.cell (p := ⟨b, off + k * 4 + 1, none⟩) (by exact hb)).trans e1
      have d2 := (hbel.cell (p := ⟨b, off + k * 4 + 2, none⟩) (by exact hb)).trans e2
      have d3 := (hbel.cell (p := ⟨b, off + k * 4 + 3, none⟩) (by exact hb)).trans e3
      obtain ⟨v0, o0⟩ := own_cells hown k hlt 0 (by omega)
      obtain ⟨v1, o1⟩ := own_cells hown k hlt 1 (by omega)
      obtain ⟨v2, o2⟩ := own_cells hown k hlt 2 (by omega)
      obtain ⟨v3, o3⟩ := own_cells hown k hlt 3 (by omega)
      rw [Nat.add_zero] at o0
      have f0 := hown.frozenAt (k * 4)
      have f1 := hown.frozenAt (k * 4 + 1)
      have f2 := hown.frozenAt (k * 4 + 2)
      have f3 := hown.frozenAt (k * 4 + 3)
      have hbw : b < wr.heap.size := Nat.lt_of_lt_of_le hb hbel.size
      clear hc hx e0 e1 e2 e3
      go_upto_region 7 with fail
      go_region_with (go_at_call 58; refine Calls.mono (cel58 _ _) ?_; rintro e w8 ⟨rfl, b8⟩; have d0 := (b8.cell (p := ⟨b, off + k * 4, none⟩) hbw).trans d0; have d1 := (b8.cell (p := ⟨b, off + k * 4 + 1, none⟩) hbw).trans d1; have d2 := (b8.cell (p := ⟨b, off + k * 4 + 2, none⟩) hbw).trans d2; have d3 := (b8.cell (p := ⟨b, off + k * 4 + 3, none⟩) hbw).trans d3; have hbw := Nat.lt_of_lt_of_le hbw b8.size; (first | have hbel := hbel.trans (b8.mono hbel.size) | have hbel := hbel.drew.trans (b8.mono hbel.size)); have hown := (fun h => own_below h b8) hown; obtain ⟨v0, o0⟩ := own_cells hown k hlt 0 (by omega); obtain ⟨v1, o1⟩ := own_cells hown k hlt 1 (by omega); obtain ⟨v2, o2⟩ := own_cells hown k hlt 2 (by omega); obtain ⟨v3, o3⟩ := own_cells hown k hlt 3 (by omega); rw [Nat.add_zero] at o0; have f0 := hown.frozenAt (k * 4); have f1 := hown.frozenAt (k * 4 + 1); have f2 := hown.frozenAt (k * 4 + 2); have f3 := hown.frozenAt (k * 4 + 3))
      all_goals
        go_wp2_with fail
        go_roundg (gk - 1)
        case measure => have := hgk hlt; omega
        case rel => exact ⟨k + 1, by have := HKG.out; have := hgk hlt; omega, by go_num, below_wsets (Nat.le_refl _) (mc (L.getD k (c0, 0))) (k * 4) hbel, _, own_wsets (mc (L.getD k (c0, 0))) (k * 4) hown, row_step mc_length (c0, 0) hL hown.1 hlt HA.out⟩
    · go_wp2
      go_ret
      refine ⟨_, rfl, Rw.ofOwn (base := w.heap.size) (e := 104) ?_, hbel⟩
      rw [hL]
      exact row_done mc_length hown hL hlt HA.out

set_option maxHeartbeats 400000 in
theorem zz43_nil (w : World) : Calls Try.prog 43 #[.slice none 0 0] w fun e w' => e = .returned (.slice none 0 0) ∧ w' = w := by
  have hq := q56
  go_enter Try.func43, Try.ntmps43
  go_wp2
  go_ret
  exact ⟨rfl, rfl⟩

theorem zz43 {v : Value} {L : List Mark} (w : World) (hs : L.length ≤ 1048576) (h : Mks w v L) :
    Calls Try.prog 43 #[v] w fun e w' => ∃ v', e = .returned v' ∧ Mks w' v' L ∧ Below w.heap.size w w' := by
  obtain ⟨a, n, c, rfl, hn, hnil, hc, hf⟩ := Mks.form h
  cases a with
  | none =>
    obtain ⟨rfl, rfl⟩ := hnil rfl
    have e : L = [] := List.eq_nil_of_length_eq_zero hn.symm
    subst e
    exact (zz43_nil w).mono fun e w' ⟨he, hw⟩ => ⟨_, he, Rd.nil _ _, hw ▸ Below.refl _ _⟩
  | some x =>
    subst hn
    exact zz43_some x _ c L w rfl hs hf

end Go.Proofs.Qxb6600021a
