/-
  add (54) on a run that shares its words: a new changed word is put in its place: the walk.
-/
import Derived.Test.Qxb6600021aR7
namespace Go.Proofs.Qxb6600021a
open Go.RowKit
set_option linter.unusedVariables false

theorem wd_out {ws : List Int} {i : Nat} (h : ¬ i < ws.length) : wd ws i = 0 := by
  simp [wd, List.getD, show ws.length ≤ i by omega]
theorem andU_zero (b : Int) : bits .and .u64 0 b = 0 := by
  have e : (BitVec.ofInt 64 0 &&& BitVec.ofInt 64 b) = 0#64 := by simp
  unfold bits
  show IntKind.wrap .u64 (((BitVec.ofInt 64 0 &&& BitVec.ofInt 64 b).toNat : Nat) : Int) = 0
  rw [e]
  rfl

theorem Run.drew {w : World} {base R : Nat} {ws : List Int} {own : Bool} {ch : List (Int × Int)} {vw vc : Value} (h : Run w base R ws own ch vw vc) : Run w.drew base R ws own ch vw vc := ⟨h.blk, h.le, h.words, h.chg⟩
theorem ins_len {ch : List (Int × Int)} {k q : Nat} (hq : q = ch.length) (hk : k ≤ q) : ((cellsL ch).drop (k * 2)).length = (q - k) * 2 := by
  rw [List.length_drop, cellsL_length, ← hq]; omega
theorem ins_n {ch : List (Int × Int)} {k q : Nat} (hq : q = ch.length) (hk : k ≤ q) : ((cellsL ch).drop (k * 2)).length = Nat.min (q + 1 - k) (q - k) * 2 := by
  have e : Nat.min (q + 1 - k) (q - k) = q - k := Nat.min_eq_right (by omega)
  rw [ins_len hq hk, e]
theorem ins_src {ch : List (Int × Int)} {k q : Nat} (hq : q = ch.length) (hk : k ≤ q) : ∀ j, j < ((cellsL ch).drop (k * 2)).length → (cellsL (ch ++ [(0, 0)]))[k * 2 + j]? = ((cellsL ch).drop (k * 2))[j]? := by
  intro j hj
  rw [ins_len hq hk] at hj
  rw [cellsL_append, List.getElem?_append_left (by rw [cellsL_length, ← hq]; omega), List.getElem?_drop]
theorem ins_one {ch : List (Int × Int)} {k : Nat} : ∀ v ∈ (cellsL ch).drop (k * 2), v.oneCell' = true := fun v hv => cellsL_one ch v (List.mem_of_mem_drop hv)
theorem ins_pos {ch : List (Int × Int)} {k q g : Nat} {A B : Addr} (hq : q = ch.length) (hk : k ≤ q) (hA : k < q → A = ⟨g, (k + 1) * 2, none⟩) (hB : B = ⟨g, k * 2, none⟩) : 0 < ((cellsL ch).drop (k * 2)).length → some A = some ⟨g, (k + 1) * 2, none⟩ ∧ some B = some ⟨g, k * 2, none⟩ := by
  intro hh
  rw [ins_len hq hk] at hh
  exact ⟨by rw [hA (by omega)], by rw [hB]⟩

set_option maxHeartbeats 1000000 in
set_option maxRecDepth 100000 in
theorem add54_insert {base R : Nat} {ws : List Int} {ch : List (Int × Int)} {vw vc : Value} (i : Nat) (b : Int) (k0 : Nat) (w : World) (h : Run w base R ws false ch vw vc) (hi : i ≤ 65536) (hn : ws.length ≤ 1048576) (hq : ch.length < 8)
    (hk0 : k0 ≤ ch.length) (hlow : ∀ j, j < k0 → ix ch j < i) (hhigh : k0 < ch.length → (i : Int) < ix ch k0) (hbit : andU (wd ws i) b = 0) :
    Calls Try.prog 54 #[.pointer (some ⟨R, 0, none⟩), .int .i64 (i : Int), .int .u64 b] w fun e w' => e = .returned (.tuple #[]) ∧ (∃ v, Run w' base R ws false (ch.take k0 ++ ((i : Int), orU (wd ws i) b) :: ch.drop k0) vw v) ∧ Below base w w' := by
  obtain ⟨i0, hi0, hz0, hz1, hz2⟩ := info_parts info118
  obtain ⟨c0, c1, c2, f0, f1, f2⟩ := h.cells
  obtain ⟨aw, cw, hvw, hcw1, hcw2, hgw⟩ := own_form h.words
  obtain ⟨ac, cc, hvc, hcp, hcm, hg⟩ := own_form h.chg
  have hcw := h.chg
  have hww := h.words
  have hRs := h.lt
  have hle := h.le
  have HR : Hid (Run w base R ws false ch vw vc) := h
  obtain ⟨q, hq'⟩ : ∃ q, q = ch.length := ⟨_, rfl⟩
  obtain ⟨n, hn'⟩ : ∃ n, n = ws.length := ⟨_, rfl⟩
  rw [← hq'] at hvc hcp hq hk0 hcw hg hhigh
  rw [← hn'] at hvw hcw1 hgw hww hn
  subst hvc hvw
  have HQ : Hid (q = ch.length) := hq'
  have HN : Hid (n = ws.length) := hn'
  have hx : ∀ j, j < q → ∃ g, ac = some ⟨g, 0, none⟩ ∧ w.cell? ⟨g, j * 2, none⟩ = some (.int .i64 (ix ch j)) := fun j hj => by
    obtain ⟨g, rfl, _, _⟩ := hg (by omega)
    exact ⟨g, rfl, by rw [hcw.cellAt _ (by omega)]; exact (cellsL_ix ch j (by rw [← HQ.out]; exact hj)).1⟩
  have hsh : i < n → ∃ g, aw = some ⟨g, 0, none⟩ ∧ w.cell? ⟨g, i, none⟩ = some (.int .u64 (wd ws i)) := fun hj => by
    obtain ⟨g, rfl, _, _⟩ := hgw (by omega)
    exact ⟨g, rfl, by rw [hww.cellAt _ (by omega)]; exact u64s_at ws i (by rw [← HN.out]; exact hj)⟩
  have HX : Hid _ := hx
  have HSh : Hid _ := hsh
  have HLow : Hid _ := hlow
  have HHigh : Hid _ := hhigh
  have HG : Hid _ := hg
  have HCW : Hid (w.ownsRow base 118 2 (.slice ac q cc) q (cellsL ch)) := hcw
  clear h hq' hn' hg hcw hx hlow hhigh hsh hgw hww
  go_enter Try.func54, Try.ntmps54
  go_wp2
  go_loopw [6] (fun s wr => ∃ k : Nat, k ≤ k0 ∧ s = .int .i64 k ∧ wr = w) (fun s _ => k0 - (intOf s).toNat)
  case atStart => exact ⟨0, by omega, rfl, rfl⟩
  case round =>
    obtain ⟨k, hk, rfl, rfl⟩ := hrel
    by_cases hlt : k < k0
    · obtain ⟨g, hac, hxj⟩ := HX.out k (by omega)
      subst hac
      have hlj := HLow.out k hlt
      go_wp2
      go_roundw
      case rel => exact ⟨k + 1, by omega, by go_num, by trivial⟩
      case measure => simp [intOf]; omega
    · have hkk : k = k0 := by omega
      subst hkk
      clear hlt hk
      by_cases hin : i < n
      · obtain ⟨gw, haw, hsw⟩ := HSh.out hin
        subst haw
        have tb : (bits .and .u64 (wd ws i) b != 0) = false := by unfold andU at hbit; rw [hbit]; rfl
        have HB : Hid _ := hbit
        clear hbit
        by_cases hkq : k < q
        · obtain ⟨g, hac, hxj⟩ := HX.out k hkq
          subst hac
          have hhj := HHigh.out hkq
          have t1 : (ix ch k == (i : Int)) = false := beq_eq_false_iff_ne.2 (by omega)
          have t2 : ¬ ix ch k < (i : Int) := by omega
          go_wp2_with (at_builtin; refine wpList_append_own _ rfl (.tmp 121) (.tmp 123) 83 rfl base 118 i0 (.agg #[.int .i64 0, .int .u64 0]) 2 16 Try.underlying83 hi0 hz0 hz1 hz2 rfl (by decide) _ _ _ rfl (HCW.out.alloc _) ⟨wr.heap.size, 0, none⟩ 1 1 [.int .i64 0, .int .u64 0] rfl rfl (new_two rfl _ _ _) two_oneCell ?b1 ?b2 ?b3 ?_)
          case b1 => unfold maxLen; omega
          case b2 => omega
          case b3 => first | omega | (simp; omega)
          intro v' w1 hown' hgrow hnil
          obtain ⟨a', c', hv', hqc', _, hg'⟩ := own_form hown'
          obtain ⟨g', ha', hbg', _⟩ := hg' (by omega)
          subst ha'
          subst hv'
          have hkept := (run_kept HR.out hgrow HR.out.apart.2.1).1
          have e0 := cell_of_row w1 R 2 _ 87 (0, 0) hkept
          have e1 : w1.frozen? ⟨R, 2, none⟩ = false := frozen_of_row w1 R 2 _ 87 hkept
          have e2 : (w1.cell? ⟨R, 2, none⟩).isSome = true := by rw [e0]; rfl
          obtain ⟨vo, e3⟩ := Option.isSome_iff_exists.1 e2
          have RR := run_app_chg HR.out (by rw [← HQ.out]; exact hown') hgrow
          have BB : Below base wr (w1.setCell ⟨R, 2, none⟩ (.slice (some ⟨g', 0, none⟩) (q + 1) c')) := below_run (((Below.refl _ _).alloc (by omega) _).grown hgrow (by simp; omega) (fun k hk => (HCW.out.lt k hk).1)) hle
          have HRR : Hid _ := RR
          have HBB : Hid _ := BB
          clear hown' hgrow hnil hkept e0 RR e2 BB
          have hA0 : ∃ A : Addr, (if c' = k + 1 then some (⟨g', 0, none⟩ : Addr) else some ⟨g', (k + 1) * 2, none⟩) = some A ∧ (k < q → A = ⟨g', (k + 1) * 2, none⟩) := by
            by_cases hc : c' = k + 1
            · rw [if_pos hc]; exact ⟨_, rfl, fun hh => by omega⟩
            · rw [if_neg hc]; exact ⟨_, rfl, fun _ => rfl⟩
          obtain ⟨A, hA, hA2⟩ := hA0
          have HA2 : Hid _ := hA2
          have hck : ¬ c' = k := by omega
          have hw1 : IntKind.i64.wrap ((k : Int) + 1) = (k : Int) + 1 := by rw [IntKind.wrap_i64]; omega
          have hw2 : ((k : Int) + 1).toNat = k + 1 := by omega
          have hw3 : 0 ≤ (k : Int) + 1 := by omega
          have hw4 : (k : Int) + 1 ≤ (q : Int) + 1 := by omega
          have hw5 : (k : Int) ≤ (q : Int) + 1 := by omega
          clear hA2
          go_wp2
          generalize hW : w1.setCell ⟨R, 2, none⟩ (.slice (some ⟨g', 0, none⟩) (q + 1) c') = W
          rw [hW] at HRR HBB
          have RR := HRR.out
          obtain ⟨d0, d1, d2, k0', k1, k2⟩ := RR.cells
          have hco := RR.chg
          rw [List.length_append, List.length_singleton, ← HQ.out] at hco
          have HCO : Hid (W.ownsRow base 118 2 (.slice (some ⟨g', 0, none⟩) (q + 1) c') (q + 1) (cellsL (ch ++ [(0, 0)]))) := hco
          clear hW RR hco e1 e3
          go_region_law (refine step_copy_within rfl (.tmp 133) (.tmp 139) 83 83 rfl 118 i0 2 Try.underlying83 hi0 hz1 (by decide) _ _ _ _ _ _ rfl rfl base g' (q + 1) c' (cellsL (ch ++ [(0, 0)])) HCO.out ((k + 1) * 2) (k * 2) ((cellsL ch).drop (k * 2)) (ins_n HQ.out hk0) (ins_pos HQ.out hk0 HA2.out rfl) (ins_src HQ.out hk0) (by rw [ins_len HQ.out hk0]; omega) (by rw [ins_len HQ.out hk0]; omega) ins_one ?_; intro w3 hown3 hgrow3)
          all_goals
            rw [shifted_cells ch k q HQ.out hk0] at hown3
            have R3 := run_turn_chg HRR.out.drew (by rw [shifted_length ch k (by rw [← HQ.out]; exact hk0), ← HQ.out]) hown3 hgrow3
            obtain ⟨d0, d1, d2, k0', k1, k2⟩ := R3.cells
            obtain ⟨v0, v1, o0, o1⟩ := pair_cells hown3 k (by omega)
            have z0 := hown3.frozenAt (k * 2)
            have z1 := hown3.frozenAt (k * 2 + 1)
            have B3 : Below base wr w3 := (HBB.out.drew).grown hgrow3 (by have := HBB.out.size; show base ≤ W.heap.size; omega) (fun j hj => by cases hj; exact hbg')
            have HR3 : Hid _ := R3
            clear hown3 hgrow3 R3
            go_wp2
            try simp only [Exit.inBlock, Exit.then]
            refine bodyPost_ret (results_none rfl _ _ _) rfl ?_
            refine ⟨rfl, ⟨.slice (some ⟨g', 0, none⟩) (q + 1) c', ?_⟩, below_run (below_run B3 hbg') hbg'⟩
            rw [← shifted_set ch k (by rw [← HQ.out]; exact hk0), orU]
            exact run_set_pair HR3.out (by rw [shifted_length ch k (by rw [← HQ.out]; exact hk0), ← HQ.out])
        · have t0 : decide ((k : Int) < (q : Int)) = false := decide_eq_false (by omega)
          go_wp2_with (at_builtin; refine wpList_append_own _ rfl (.tmp 121) (.tmp 123) 83 rfl base 118 i0 (.agg #[.int .i64 0, .int .u64 0]) 2 16 Try.underlying83 hi0 hz0 hz1 hz2 rfl (by decide) _ _ _ rfl (HCW.out.alloc _) ⟨wr.heap.size, 0, none⟩ 1 1 [.int .i64 0, .int .u64 0] rfl rfl (new_two rfl _ _ _) two_oneCell ?b1 ?b2 ?b3 ?_)
          case b1 => unfold maxLen; omega
          case b2 => omega
          case b3 => first | omega | (simp; omega)
          intro v' w1 hown' hgrow hnil
          obtain ⟨a', c', hv', hqc', _, hg'⟩ := own_form hown'
          obtain ⟨g', ha', hbg', _⟩ := hg' (by omega)
          subst ha'
          subst hv'
          have hkept := (run_kept HR.out hgrow HR.out.apart.2.1).1
          have e0 := cell_of_row w1 R 2 _ 87 (0, 0) hkept
          have e1 : w1.frozen? ⟨R, 2, none⟩ = false := frozen_of_row w1 R 2 _ 87 hkept
          have e2 : (w1.cell? ⟨R, 2, none⟩).isSome = true := by rw [e0]; rfl
          obtain ⟨vo, e3⟩ := Option.isSome_iff_exists.1 e2
          have RR := run_app_chg HR.out (by rw [← HQ.out]; exact hown') hgrow
          have BB : Below base wr (w1.setCell ⟨R, 2, none⟩ (.slice (some ⟨g', 0, none⟩) (q + 1) c')) := below_run (((Below.refl _ _).alloc (by omega) _).grown hgrow (by simp; omega) (fun k hk => (HCW.out.lt k hk).1)) hle
          have HRR : Hid _ := RR
          have HBB : Hid _ := BB
          clear hown' hgrow hnil hkept e0 RR e2 BB
          have hA0 : ∃ A : Addr, (if c' = k + 1 then some (⟨g', 0, none⟩ : Addr) else some ⟨g', (k + 1) * 2, none⟩) = some A ∧ (k < q → A = ⟨g', (k + 1) * 2, none⟩) := by
            by_cases hc : c' = k + 1
            · rw [if_pos hc]; exact ⟨_, rfl, fun hh => by omega⟩
            · rw [if_neg hc]; exact ⟨_, rfl, fun _ => rfl⟩
          obtain ⟨A, hA, hA2⟩ := hA0
          have HA2 : Hid _ := hA2
          have hck : ¬ c' = k := by omega
          have hw1 : IntKind.i64.wrap ((k : Int) + 1) = (k : Int) + 1 := by rw [IntKind.wrap_i64]; omega
          have hw2 : ((k : Int) + 1).toNat = k + 1 := by omega
          have hw3 : 0 ≤ (k : Int) + 1 := by omega
          have hw4 : (k : Int) + 1 ≤ (q : Int) + 1 := by omega
          have hw5 : (k : Int) ≤ (q : Int) + 1 := by omega
          clear hA2
          go_wp2
          generalize hW : w1.setCell ⟨R, 2, none⟩ (.slice (some ⟨g', 0, none⟩) (q + 1) c') = W
          rw [hW] at HRR HBB
          have RR := HRR.out
          obtain ⟨d0, d1, d2, k0', k1, k2⟩ := RR.cells
          have hco := RR.chg
          rw [List.length_append, List.length_singleton, ← HQ.out] at hco
          have HCO : Hid (W.ownsRow base 118 2 (.slice (some ⟨g', 0, none⟩) (q + 1) c') (q + 1) (cellsL (ch ++ [(0, 0)]))) := hco
          clear hW RR hco e1 e3
          go_region_law (refine step_copy_within rfl (.tmp 133) (.tmp 139) 83 83 rfl 118 i0 2 Try.underlying83 hi0 hz1 (by decide) _ _ _ _ _ _ rfl rfl base g' (q + 1) c' (cellsL (ch ++ [(0, 0)])) HCO.out ((k + 1) * 2) (k * 2) ((cellsL ch).drop (k * 2)) (ins_n HQ.out hk0) (ins_pos HQ.out hk0 HA2.out rfl) (ins_src HQ.out hk0) (by rw [ins_len HQ.out hk0]; omega) (by rw [ins_len HQ.out hk0]; omega) ins_one ?_; intro w3 hown3 hgrow3)
          all_goals
            rw [shifted_cells ch k q HQ.out hk0] at hown3
            have R3 := run_turn_chg HRR.out.drew (by rw [shifted_length ch k (by rw [← HQ.out]; exact hk0), ← HQ.out]) hown3 hgrow3
            obtain ⟨d0, d1, d2, k0', k1, k2⟩ := R3.cells
            obtain ⟨v0, v1, o0, o1⟩ := pair_cells hown3 k (by omega)
            have z0 := hown3.frozenAt (k * 2)
            have z1 := hown3.frozenAt (k * 2 + 1)
            have B3 : Below base wr w3 := (HBB.out.drew).grown hgrow3 (by have := HBB.out.size; show base ≤ W.heap.size; omega) (fun j hj => by cases hj; exact hbg')
            have HR3 : Hid _ := R3
            clear hown3 hgrow3 R3
            go_wp2
            try simp only [Exit.inBlock, Exit.then]
            refine bodyPost_ret (results_none rfl _ _ _) rfl ?_
            refine ⟨rfl, ⟨.slice (some ⟨g', 0, none⟩) (q + 1) c', ?_⟩, below_run (below_run B3 hbg') hbg'⟩
            rw [← shifted_set ch k (by rw [← HQ.out]; exact hk0), orU]
            exact run_set_pair HR3.out (by rw [shifted_length ch k (by rw [← HQ.out]; exact hk0), ← HQ.out])
      · have tb : (bits .and .u64 0 b != 0) = false := by rw [andU_zero]; rfl
        have HB : Hid (wd ws i = 0) := wd_out (by rw [← HN.out]; exact hin)
        clear hbit
        by_cases hkq : k < q
        · obtain ⟨g, hac, hxj⟩ := HX.out k hkq
          subst hac
          have hhj := HHigh.out hkq
          have t1 : (ix ch k == (i : Int)) = false := beq_eq_false_iff_ne.2 (by omega)
          have t2 : ¬ ix ch k < (i : Int) := by omega
          go_wp2_with (at_builtin; refine wpList_append_own _ rfl (.tmp 121) (.tmp 123) 83 rfl base 118 i0 (.agg #[.int .i64 0, .int .u64 0]) 2 16 Try.underlying83 hi0 hz0 hz1 hz2 rfl (by decide) _ _ _ rfl (HCW.out.alloc _) ⟨wr.heap.size, 0, none⟩ 1 1 [.int .i64 0, .int .u64 0] rfl rfl (new_two rfl _ _ _) two_oneCell ?b1 ?b2 ?b3 ?_)
          case b1 => unfold maxLen; omega
          case b2 => omega
          case b3 => first | omega | (simp; omega)
          intro v' w1 hown' hgrow hnil
          obtain ⟨a', c', hv', hqc', _, hg'⟩ := own_form hown'
          obtain ⟨g', ha', hbg', _⟩ := hg' (by omega)
          subst ha'
          subst hv'
          have hkept := (run_kept HR.out hgrow HR.out.apart.2.1).1
          have e0 := cell_of_row w1 R 2 _ 87 (0, 0) hkept
          have e1 : w1.frozen? ⟨R, 2, none⟩ = false := frozen_of_row w1 R 2 _ 87 hkept
          have e2 : (w1.cell? ⟨R, 2, none⟩).isSome = true := by rw [e0]; rfl
          obtain ⟨vo, e3⟩ := Option.isSome_iff_exists.1 e2
          have RR := run_app_chg HR.out (by rw [← HQ.out]; exact hown') hgrow
          have BB : Below base wr (w1.setCell ⟨R, 2, none⟩ (.slice (some ⟨g', 0, none⟩) (q + 1) c')) := below_run (((Below.refl _ _).alloc (by omega) _).grown hgrow (by simp; omega) (fun k hk => (HCW.out.lt k hk).1)) hle
          have HRR : Hid _ := RR
          have HBB : Hid _ := BB
          clear hown' hgrow hnil hkept e0 RR e2 BB
          have hA0 : ∃ A : Addr, (if c' = k + 1 then some (⟨g', 0, none⟩ : Addr) else some ⟨g', (k + 1) * 2, none⟩) = some A ∧ (k < q → A = ⟨g', (k + 1) * 2, none⟩) := by
            by_cases hc : c' = k + 1
            · rw [if_pos hc]; exact ⟨_, rfl, fun hh => by omega⟩
            · rw [if_neg hc]; exact ⟨_, rfl, fun _ => rfl⟩
          obtain ⟨A, hA, hA2⟩ := hA0
          have HA2 : Hid _ := hA2
          have hck : ¬ c' = k := by omega
          have hw1 : IntKind.i64.wrap ((k : Int) + 1) = (k : Int) + 1 := by rw [IntKind.wrap_i64]; omega
          have hw2 : ((k : Int) + 1).toNat = k + 1 := by omega
          have hw3 : 0 ≤ (k : Int) + 1 := by omega
          have hw4 : (k : Int) + 1 ≤ (q : Int) + 1 := by omega
          have hw5 : (k : Int) ≤ (q : Int) + 1 := by omega
          clear hA2
          go_wp2
          generalize hW : w1.setCell ⟨R, 2, none⟩ (.slice (some ⟨g', 0, none⟩) (q + 1) c') = W
          rw [hW] at HRR HBB
          have RR := HRR.out
          obtain ⟨d0, d1, d2, k0', k1, k2⟩ := RR.cells
          have hco := RR.chg
          rw [List.length_append, List.length_singleton, ← HQ.out] at hco
          have HCO : Hid (W.ownsRow base 118 2 (.slice (some ⟨g', 0, none⟩) (q + 1) c') (q + 1) (cellsL (ch ++ [(0, 0)]))) := hco
          clear hW RR hco e1 e3
          go_region_law (refine step_copy_within rfl (.tmp 133) (.tmp 139) 83 83 rfl 118 i0 2 Try.underlying83 hi0 hz1 (by decide) _ _ _ _ _ _ rfl rfl base g' (q + 1) c' (cellsL (ch ++ [(0, 0)])) HCO.out ((k + 1) * 2) (k * 2) ((cellsL ch).drop (k * 2)) (ins_n HQ.out hk0) (ins_pos HQ.out hk0 HA2.out rfl) (ins_src HQ.out hk0) (by rw [ins_len HQ.out hk0]; omega) (by rw [ins_len HQ.out hk0]; omega) ins_one ?_; intro w3 hown3 hgrow3)
          all_goals
            rw [shifted_cells ch k q HQ.out hk0] at hown3
            have R3 := run_turn_chg HRR.out.drew (by rw [shifted_length ch k (by rw [← HQ.out]; exact hk0), ← HQ.out]) hown3 hgrow3
            obtain ⟨d0, d1, d2, k0', k1, k2⟩ := R3.cells
            obtain ⟨v0, v1, o0, o1⟩ := pair_cells hown3 k (by omega)
            have z0 := hown3.frozenAt (k * 2)
            have z1 := hown3.frozenAt (k * 2 + 1)
            have B3 : Below base wr w3 := (HBB.out.drew).grown hgrow3 (by have := HBB.out.size; show base ≤ W.heap.size; omega) (fun j hj => by cases hj; exact hbg')
            have HR3 : Hid _ := R3
            clear hown3 hgrow3 R3
            go_wp2
            try simp only [Exit.inBlock, Exit.then]
            refine bodyPost_ret (results_none rfl _ _ _) rfl ?_
            refine ⟨rfl, ⟨.slice (some ⟨g', 0, none⟩) (q + 1) c', ?_⟩, below_run (below_run B3 hbg') hbg'⟩
            rw [← shifted_set ch k (by rw [← HQ.out]; exact hk0), HB.out, orU]
            exact run_set_pair HR3.out (by rw [shifted_length ch k (by rw [← HQ.out]; exact hk0), ← HQ.out])
        · have t0 : decide ((k : Int) < (q : Int)) = false := decide_eq_false (by omega)
          go_wp2_with (at_builtin; refine wpList_append_own _ rfl (.tmp 121) (.tmp 123) 83 rfl base 118 i0 (.agg #[.int .i64 0, .int .u64 0]) 2 16 Try.underlying83 hi0 hz0 hz1 hz2 rfl (by decide) _ _ _ rfl (HCW.out.alloc _) ⟨wr.heap.size, 0, none⟩ 1 1 [.int .i64 0, .int .u64 0] rfl rfl (new_two rfl _ _ _) two_oneCell ?b1 ?b2 ?b3 ?_)
          case b1 => unfold maxLen; omega
          case b2 => omega
          case b3 => first | omega | (simp; omega)
          intro v' w1 hown' hgrow hnil
          obtain ⟨a', c', hv', hqc', _, hg'⟩ := own_form hown'
          obtain ⟨g', ha', hbg', _⟩ := hg' (by omega)
          subst ha'
          subst hv'
          have hkept := (run_kept HR.out hgrow HR.out.apart.2.1).1
          have e0 := cell_of_row w1 R 2 _ 87 (0, 0) hkept
          have e1 : w1.frozen? ⟨R, 2, none⟩ = false := frozen_of_row w1 R 2 _ 87 hkept
          have e2 : (w1.cell? ⟨R, 2, none⟩).isSome = true := by rw [e0]; rfl
          obtain ⟨vo, e3⟩ := Option.isSome_iff_exists.1 e2
          have RR := run_app_chg HR.out (by rw [← HQ.out]; exact hown') hgrow
          have BB : Below base wr (w1.setCell ⟨R, 2, none⟩ (.slice (some ⟨g', 0, none⟩) (q + 1) c')) := below_run (((Below.refl _ _).alloc (by omega) _).grown hgrow (by simp; omega) (fun k hk => (HCW.out.lt k hk).1)) hle
          have HRR : Hid _ := RR
          have HBB : Hid _ := BB
          clear hown' hgrow hnil hkept e0 RR e2 BB
          have hA0 : ∃ A : Addr, (if c' = k + 1 then some (⟨g', 0, none⟩ : Addr) else some ⟨g', (k + 1) * 2, none⟩) = some A ∧ (k < q → A = ⟨g', (k + 1) * 2, none⟩) := by
            by_cases hc : c' = k + 1
            · rw [if_pos hc]; exact ⟨_, rfl, fun hh => by omega⟩
            · rw [if_neg hc]; exact ⟨_, rfl, fun _ => rfl⟩
          obtain ⟨A, hA, hA2⟩ := hA0
          have HA2 : Hid _ := hA2
          have hck : ¬ c' = k := by omega
          have hw1 : IntKind.i64.wrap ((k : Int) + 1) = (k : Int) + 1 := by rw [IntKind.wrap_i64]; omega
          have hw2 : ((k : Int) + 1).toNat = k + 1 := by omega
          have hw3 : 0 ≤ (k : Int) + 1 := by omega
          have hw4 : (k : Int) + 1 ≤ (q : Int) + 1 := by omega
          have hw5 : (k : Int) ≤ (q : Int) + 1 := by omega
          clear hA2
          go_wp2
          generalize hW : w1.setCell ⟨R, 2, none⟩ (.slice (some ⟨g', 0, none⟩) (q + 1) c') = W
          rw [hW] at HRR HBB
          have RR := HRR.out
          obtain ⟨d0, d1, d2, k0', k1, k2⟩ := RR.cells
          have hco := RR.chg
          rw [List.length_append, List.length_singleton, ← HQ.out] at hco
          have HCO : Hid (W.ownsRow base 118 2 (.slice (some ⟨g', 0, none⟩) (q + 1) c') (q + 1) (cellsL (ch ++ [(0, 0)]))) := hco
          clear hW RR hco e1 e3
          go_region_law (refine step_copy_within rfl (.tmp 133) (.tmp 139) 83 83 rfl 118 i0 2 Try.underlying83 hi0 hz1 (by decide) _ _ _ _ _ _ rfl rfl base g' (q + 1) c' (cellsL (ch ++ [(0, 0)])) HCO.out ((k + 1) * 2) (k * 2) ((cellsL ch).drop (k * 2)) (ins_n HQ.out hk0) (ins_pos HQ.out hk0 HA2.out rfl) (ins_src HQ.out hk0) (by rw [ins_len HQ.out hk0]; omega) (by rw [ins_len HQ.out hk0]; omega) ins_one ?_; intro w3 hown3 hgrow3)
          all_goals
            rw [shifted_cells ch k q HQ.out hk0] at hown3
            have R3 := run_turn_chg HRR.out.drew (by rw [shifted_length ch k (by rw [← HQ.out]; exact hk0), ← HQ.out]) hown3 hgrow3
            obtain ⟨d0, d1, d2, k0', k1, k2⟩ := R3.cells
            obtain ⟨v0, v1, o0, o1⟩ := pair_cells hown3 k (by omega)
            have z0 := hown3.frozenAt (k * 2)
            have z1 := hown3.frozenAt (k * 2 + 1)
            have B3 : Below base wr w3 := (HBB.out.drew).grown hgrow3 (by have := HBB.out.size; show base ≤ W.heap.size; omega) (fun j hj => by cases hj; exact hbg')
            have HR3 : Hid _ := R3
            clear hown3 hgrow3 R3
            go_wp2
            try simp only [Exit.inBlock, Exit.then]
            refine bodyPost_ret (results_none rfl _ _ _) rfl ?_
            refine ⟨rfl, ⟨.slice (some ⟨g', 0, none⟩) (q + 1) c', ?_⟩, below_run (below_run B3 hbg') hbg'⟩
            rw [← shifted_set ch k (by rw [← HQ.out]; exact hk0), HB.out, orU]
            exact run_set_pair HR3.out (by rw [shifted_length ch k (by rw [← HQ.out]; exact hk0), ← HQ.out])

end Go.Proofs.Qxb6600021a
