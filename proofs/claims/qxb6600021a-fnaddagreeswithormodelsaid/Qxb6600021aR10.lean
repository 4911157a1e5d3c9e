/-
  add (54) on a run that shares its words: it copies them and owns them from now on: the walk.
-/
import Derived.Test.Qxb6600021aR9
namespace Go.Proofs.Qxb6600021a
open Go.RowKit
set_option linter.unusedVariables false

theorem over_take (ch : List (Int × Int)) : ∀ (l : List Int) (k : Nat), k < ch.length → over l (ch.take (k + 1)) = (over l (ch.take k)).set (ix ch k).toNat (bt ch k) := by
  induction ch with
  | nil => intro l k h; simp at h
  | cons p ch ih =>
    intro l k h
    cases k with
    | zero => rfl
    | succ k =>
      have := ih (l.set p.1.toNat p.2) k (by simpa using h)
      exact this
theorem copied (ws : List Int) (N : Nat) (h : ws.length ≤ N) : u64s ws ++ (u64s (zeros N)).drop (u64s ws).length = u64s (pad ws N) := by
  unfold pad
  rw [u64s_append, u64s_length]
  congr 1
  simp [u64s, zeros]

section
variable {w w1 wr : World} {base R : Nat} {ws : List Int} {own : Bool} {ch : List (Int × Int)} {vw vc v' : Value}
/-- A new row's store leaves the run as it was. -/
theorem run_beside {g i : Nat} {x : Value} {N c : Nat} {xs : List Value} (h : Run wr base R ws own ch vw vc) (h1 : R ≠ g) (h2 : vw.ownBlock ≠ some g) (h3 : vc.ownBlock ≠ some g) : Run (wr.setCell ⟨g, i, none⟩ x) base R ws own ch vw vc := by
  refine ⟨?_, h.le, ?_, ?_⟩
  · rw [heap_setCell_other wr ⟨g, i, none⟩ R _ h1]; exact h.blk
  · exact own_of_blocks h.words fun g' hg' => heap_setCell_other wr ⟨g, i, none⟩ g' _ (fun e => h2 (by rw [hg']; exact congrArg some e))
  · exact own_of_blocks h.chg fun g' hg' => heap_setCell_other wr ⟨g, i, none⟩ g' _ (fun e => h3 (by rw [hg']; exact congrArg some e))
theorem run_grown {g : Nat} (h : Run wr base R ws own ch vw vc) (hg : wr.grownBy w1 (some g)) (h1 : R ≠ g) (h2 : vw.ownBlock ≠ some g) (h3 : vc.ownBlock ≠ some g) : Run w1 base R ws own ch vw vc := by
  refine ⟨?_, h.le, h.words.kept hg (.inr h2), h.chg.kept hg (.inr h3)⟩
  rw [hg.block R h.lt (fun e => h1 (by simpa using e))]; exact h.blk
theorem run_grown_none (h : Run wr base R ws own ch vw vc) (hg : wr.grownBy w1 none) : Run w1 base R ws own ch vw vc := by
  have e : ∀ v : Value, v.ownBlock = none ∨ v.ownBlock ≠ none := fun v => by cases v.ownBlock <;> simp
  refine ⟨?_, h.le, h.words.kept hg (e _), h.chg.kept hg (e _)⟩
  rw [hg.block R h.lt (by simp)]; exact h.blk
theorem Run.alloc (h : Run wr base R ws own ch vw vc) (o : Obj) : Run (wr.alloc o) base R ws own ch vw vc := h.below ((Below.refl _ _).alloc (Nat.le_refl _) o)
theorem over_step {g N c j x : Nat} {l : List Int} (hown : wr.ownsRow base 29 1 (.slice (some ⟨g, 0, none⟩) N c) N (u64s (over l (ch.take j)))) (hj : j < ch.length) (hx : ix ch j = (x : Int)) :
    (wr.setCell ⟨g, x, none⟩ (.int .u64 (bt ch j))).ownsRow base 29 1 (.slice (some ⟨g, 0, none⟩) N c) N (u64s (over l (ch.take (j + 1)))) := by
  have := (hown.stored x (.int .u64 (bt ch j))).1
  rw [over_take ch l j hj, hx, Int.toNat_natCast, u64s_set]
  exact this
theorem own_src {w3 : World} {base e n c : Nat} {a : Option Addr} {xs : List Value} (h : w3.ownsRow base e 1 (.slice a n c) n xs) : 0 < xs.length → ∃ ad, a = some ad ∧ ∀ j v, xs[j]? = some v → w3.cell? (ad.add j) = some v := by
  intro hx
  have hl := h.1
  obtain ⟨a', c', hv, _, _, hg⟩ := own_form h
  obtain ⟨g, ha, _, _⟩ := hg (by omega)
  simp only [Value.slice.injEq, true_and] at hv
  obtain ⟨rfl, rfl⟩ := hv
  subst ha
  exact ⟨_, rfl, h.cells (g := g) rfl⟩
/-- The three fields are stored: words, changed, owned. -/
theorem run_own {g N c : Nat} {ws' : List Int} (hblk : wr.heap[R]? = some (.cells #[vw, .bool own, vc] 87 (0, 0))) (hle : base ≤ R) (hgR : g ≠ R) (hN : ws'.length = N) (hown : wr.ownsRow base 29 1 (.slice (some ⟨g, 0, none⟩) N c) N (u64s ws')) :
    Run (((wr.setCell ⟨R, 0, none⟩ (.slice (some ⟨g, 0, none⟩) N c)).setCell ⟨R, 2, none⟩ (.slice none 0 0)).setCell ⟨R, 1, none⟩ (.bool true)) base R ws' true [] (.slice (some ⟨g, 0, none⟩) N c) (.slice none 0 0) := by
  have b1 := heap_setCell_same wr R 0 _ 87 (.slice (some ⟨g, 0, none⟩) N c) hblk
  have b2 := heap_setCell_same _ R 2 _ 87 (.slice none 0 0) b1
  have b3 := heap_setCell_same _ R 1 _ 87 (.bool true) b2
  refine ⟨?_, hle, ?_, World.ownsRow_nil _ _ _ _⟩
  · rw [b3]; rfl
  · rw [hN]
    refine own_of_blocks hown fun g' hg' => ?_
    have e : g' = g := by simp [Value.ownBlock] at hg'; exact hg'.symm
    subst e
    rw [heap_setCell_other _ ⟨R, 1, none⟩ g' _ hgR, heap_setCell_other _ ⟨R, 2, none⟩ g' _ hgR, heap_setCell_other _ ⟨R, 0, none⟩ g' _ hgR]
end

set_option maxHeartbeats 1000000 in
set_option maxRecDepth 100000 in
theorem add54_grow {base R : Nat} {ws : List Int} {ch : List (Int × Int)} {vw vc : Value} (i : Nat) (b : Int) (k0 : Nat) (w : World) (h : Run w base R ws false ch vw vc) (hi : i ≤ 65536) (hn : ws.length ≤ 1048576) (hq : 8 ≤ ch.length)
    (hk0 : k0 ≤ ch.length) (hlow : ∀ j, j < k0 → ix ch j < i) (hhigh : k0 < ch.length → (i : Int) < ix ch k0) (hbit : andU (wd ws i) b = 0) (hq8 : ch.length ≤ 8) (hix : ∀ j, j < ch.length → 0 ≤ ix ch j ∧ ix ch j ≤ 65536 ∧ ix ch j < runLen ws ch) (rl : Nat) (hrl : runLen ws ch = (rl : Int)) (hnr : ws.length ≤ rl) (hrb : rl ≤ 1048576) (N : Nat) (hN : N = max rl (i + 1)) :
    Calls Try.prog 54 #[.pointer (some ⟨R, 0, none⟩), .int .i64 (i : Int), .int .u64 b] w fun e w' => e = .returned (.tuple #[]) ∧ (∃ v, Run w' base R (setW (over (pad ws N) ch) i b) true [] v (.slice none 0 0)) ∧ Below base w w' := by
  obtain ⟨i0, hi0, hz0, hz1, hz2⟩ := info_parts info29
  have hlen := fun (W : World) (hR : Run W base R ws false ch vw vc) => len55 W hR hn hq8 (fun j hj => ⟨(hix j hj).1, (hix j hj).2.1⟩)
  rw [hrl] at hlen hix
  have HLen : Hid _ := hlen
  have hcl := hq8
  have hN1 : rl ≤ N := by omega
  have hN2 : i + 1 ≤ N := by omega
  have hN3 : N ≤ rl ∨ N ≤ i + 1 := by omega
  clear hlen hrl hN
  obtain ⟨c0, c1, c2, f0, f1, f2⟩ := h.cells
  obtain ⟨aw, cw, hvw, hcw1, hcw2, hgw⟩ := own_form h.words
  obtain ⟨ac, cc, hvc, hcp, hcm, hg⟩ := own_form h.chg
  have hcw := h.chg
  have hww := h.words
  have hRs := h.lt
  have hle := h.le
  have HR : Hid (Run w base R ws false ch vw vc) := h
  obtain ⟨q, hq'⟩ : ∃ q, q = ch.length := ⟨_, rfl⟩
  obtain ⟨n, hn'⟩ : ∃ n, n = ws.length := ⟨_, rfl⟩
  rw [← hq'] at hvc hcp hq hk0 hcw hg hhigh hcl hix
  rw [← hn'] at hvw hcw1 hgw hww hn hnr
  subst hvc hvw
  have HQ : Hid (q = ch.length) := hq'
  have HN : Hid (n = ws.length) := hn'
  obtain ⟨gc, hac, hbgc, _⟩ := hg (by omega)
  subst hac
  have dq : decide ((q : Int) < 8) = false := decide_eq_false (by omega)
  have hx : ∀ j, j < q → w.cell? ⟨gc, j * 2, none⟩ = some (.int .i64 (ix ch j)) := fun j hj => by
    rw [hcw.cellAt _ (by omega)]; exact (cellsL_ix ch j (by rw [← HQ.out]; exact hj)).1
  have hsh : i < n → ∃ g, aw = some ⟨g, 0, none⟩ ∧ w.cell? ⟨g, i, none⟩ = some (.int .u64 (wd ws i)) := fun hj => by
    obtain ⟨g, rfl, _, _⟩ := hgw (by omega)
    exact ⟨g, rfl, by rw [hww.cellAt _ (by omega)]; exact u64s_at ws i (by rw [← HN.out]; exact hj)⟩
  have HX : Hid _ := hx
  have HSh : Hid _ := hsh
  have HLow : Hid _ := hlow
  have HHigh : Hid _ := hhigh
  have HG : Hid _ := hg
  have HCW : Hid (w.ownsRow base 118 2 (.slice (some ⟨gc, 0, none⟩) q cc) q (cellsL ch)) := hcw
  have HW : Hid (w.ownsRow base 29 1 (.slice aw n cw) n (u64s ws)) := hww
  have HIx : Hid _ := hix
  clear hix hq8
  clear h hq' hn' hg hcw hx hlow hhigh hsh hgw hww
  go_enter Try.func54, Try.ntmps54
  go_wp2
  go_loopw [6] (fun s wr => ∃ k : Nat, k ≤ k0 ∧ s = .int .i64 k ∧ wr = w) (fun s _ => k0 - (intOf s).toNat)
  case atStart => exact ⟨0, by omega, rfl, rfl⟩
  case round =>
    obtain ⟨k, hk, rfl, rfl⟩ := hrel
    by_cases hlt : k < k0
    · have hxj := HX.out k (by omega)
      have hlj := HLow.out k hlt
      go_wp2
      go_roundw
      case rel => exact ⟨k + 1, by omega, by go_num, by trivial⟩
      case measure => simp [intOf]; omega
    · have hkk : k = k0 := by omega
      subst hkk
      clear hlt hk
      obtain ⟨w0, hw0⟩ : ∃ w0, w0 = wr := ⟨_, rfl⟩
      subst hw0
      by_cases hin : i < n
      · obtain ⟨gw, haw, hsw⟩ := HSh.out hin
        subst haw
        have tb : (bits .and .u64 (wd ws i) b != 0) = false := by unfold andU at hbit; rw [hbit]; rfl
        have HB : Hid _ := hbit
        clear hbit
        by_cases hkq : k < q
        · have hxj := HX.out k hkq
          have hhj := HHigh.out hkq
          have t1 : (ix ch k == (i : Int)) = false := beq_eq_false_iff_ne.2 (by omega)
          have t2 : ¬ ix ch k < (i : Int) := by omega
          have hNa : N ≤ rl := by omega
          have hNb : rl ≤ N := by omega
          have hmx : ¬ (rl : Int) < (i : Int) + 1 := by omega
          go_wp2_with fail
          refine (HLen.out _ HR.out).mono ?_
          rintro e w2 ⟨rfl, b2⟩
          have R2 := HR.out.below b2
          have HR2 : Hid (Run w2 base R ws false ch _ _) := R2
          have HB2 : Hid _ := b2
          have hs2 := b2.size
          have hwl := own_below HW.out b2
          clear HLen b2 R2
          go_wp2_with (at_make; refine wpList_make_full _ rfl _ _ 38 rfl base 29 i0 (.int .u64 0) 1 Try.underlying38 hi0 hz0 hz1 _ _ _ _ N rfl rfl (by omega) (by omega) ?m2 ?m3 ?m4 ?_)
          case m2 => rw [hz2]; omega
          case m3 => unfold maxLen; omega
          case m4 => omega
          intro w3 hown3 hgrow3
          rw [made_zeros'] at hown3
          have R3 := run_grown_none HR2.out hgrow3
          have B3 : Below base w0 w3 := (HB2.out.mono (by omega)).grown hgrow3 (by omega) (fun j hj => by cases hj)
          obtain ⟨d0, d1, d2, y0, y1, y2⟩ := R3.cells
          have hw3 := R3.words
          rw [← HN.out] at hw3
          have hGs := (hown3.lt w2.heap.size rfl).2
          have hne : R ≠ w2.heap.size := by omega
          have HR3 : Hid (Run w3 base R ws false ch _ _) := R3
          have hbw : Value.ownBlock _ ≠ some w2.heap.size := fun e => absurd (HR2.out.words.lt _ e).2 (Nat.lt_irrefl _)
          have hbc : Value.ownBlock _ ≠ some w2.heap.size := fun e => absurd (HR2.out.chg.lt _ e).2 (Nat.lt_irrefl _)
          have HO3 : Hid (w3.ownsRow base 29 1 (.slice (some ⟨w2.heap.size, 0, none⟩) N N) N (u64s (zeros N))) := hown3
          have HBW : Hid _ := hbw
          have HBC : Hid _ := hbc
          clear hown3 hgrow3 R3 hbw hbc hwl
          go_wp2_with (refine wpList_copy_from rfl (.tmp 158) (.tmp 162) 38 38 rfl 29 i0 1 Try.underlying38 hi0 hz1 (by decide) _ _ _ base w2.heap.size N N rfl rfl (u64s (zeros N)) HO3.out (u64s ws) (by rw [u64s_length, ← HN.out, Nat.mul_one]; exact (Nat.min_eq_left (by omega)).symm) (own_src hw3) (u64s_one ws) ?_)
          intro w4 hown4 hgrow4
          rw [copied ws N (by rw [← HN.out]; omega)] at hown4
          have R4 := run_grown HR3.out hgrow4 hne HBW.out HBC.out
          have B4 : Below base w0 w4 := B3.grown hgrow4 (by have := B3.size; omega) (fun j hj => by cases hj; omega)
          have HR4 : Hid (Run w4 base R ws false ch _ _) := R4
          have HO4 : Hid (w4.ownsRow base 29 1 (.slice (some ⟨w2.heap.size, 0, none⟩) N N) N (u64s (pad ws N))) := hown4
          obtain ⟨d0, d1, d2, y0, y1, y2⟩ := R4.cells
          obtain ⟨G, hG⟩ : ∃ G, G = w2.heap.size := ⟨_, rfl⟩
          clear hown4 hgrow4 R4 hw3
          obtain ⟨mn, hmn⟩ : ∃ mn, mn = n.min N := ⟨_, rfl⟩
          rw [← hmn]
          clear hmn
          go_wp2
          go_loopw [169] (fun s wr => ∃ j : Nat, j ≤ q ∧ s = .int .i64 j ∧ Run wr base R ws false ch (.slice _ n cw) (.slice (some ⟨gc, 0, none⟩) q cc) ∧ wr.ownsRow base 29 1 (.slice (some ⟨w2.heap.size, 0, none⟩) N N) N (u64s (over (pad ws N) (ch.take j))) ∧ Below base w0 wr ∧ w2.heap.size < wr.heap.size) (fun s _ => q - (intOf s).toNat)
          case atStart => exact ⟨0, by omega, rfl, HR4.out, HO4.out, B4, (HO4.out.lt _ rfl).2⟩
          case round =>
            clear d0 d1 d2 y0 y1 y2 B4 B3
            obtain ⟨j, hj, rfl, hrun, hown, hbel, hsz⟩ := hrel
            have HRun : Hid (Run wr base R ws false ch _ _) := hrun
            obtain ⟨d0, d1, d2, y0, y1, y2⟩ := hrun.cells
            have hch := hrun.chg
            rw [← HQ.out] at hch
            have hgl := (hch.lt gc rfl).2
            have HOwn : Hid (wr.ownsRow base 29 1 (.slice (some ⟨w2.heap.size, 0, none⟩) N N) N (u64s (over (pad ws N) (ch.take j)))) := hown
            by_cases hlt : j < q
            · have a0 : wr.cell? ⟨gc, j * 2, none⟩ = some (.int .i64 (ix ch j)) := by rw [hch.cellAt _ (by omega)]; exact (cellsL_ix ch j (by rw [← HQ.out]; exact hlt)).1
              have a1 : wr.cell? ⟨gc, j * 2 + 1, none⟩ = some (.int .u64 (bt ch j)) := by rw [hch.cellAt _ (by omega)]; exact (cellsL_ix ch j (by rw [← HQ.out]; exact hlt)).2
              have hxb := HIx.out j hlt
              obtain ⟨x, hx⟩ : ∃ x : Nat, ix ch j = (x : Int) := ⟨(ix ch j).toNat, by omega⟩
              rw [hx] at a0 hxb
              have hxN : x < N := by omega
              obtain ⟨v0, o0⟩ := one_cell hown x hxN
              have z0 := hown.frozenAt x
              have o1 : ∀ o, (wr.alloc o).cell? ⟨w2.heap.size, x, none⟩ = some v0 := fun o => by rw [← o0]; exact World.cell?_of_block (w := wr) (Below.heap_alloc wr o _ hsz)
              have z1 : ∀ o, (wr.alloc o).frozen? ⟨w2.heap.size, x, none⟩ = false := fun o => by rw [← z0]; exact World.frozen?_of_block (w := wr) (Below.heap_alloc wr o _ hsz)
              have HX2 : Hid (ix ch j = (x : Int)) := hx
              clear hch hown hrun hx o0 z0
              go_wp2
              go_roundw
              case rel => exact ⟨j + 1, by omega, by go_num, (run_beside (N := 0) (c := 0) (xs := []) HRun.out hne HBW.out HBC.out).alloc _, (over_step HOwn.out (by rw [← HQ.out]; exact hlt) HX2.out).alloc _, (below_run hbel (by omega)).alloc (by simp [World.setCell]; omega) _, by simp [World.setCell]; omega⟩
              case measure => simp [intOf]; omega
            · have e1 := hown.cellAt i (by omega)
              have hol : (over (pad ws N) (ch.take j)).length = N := by have := hown.1; rw [u64s_length] at this; omega
              rw [u64s_at _ _ (by rw [hol]; omega)] at e1
              have z0 := hown.frozenAt i
              have htk : ch.take j = ch := List.take_of_length_le (by rw [← HQ.out]; omega)
              have HTk : Hid (ch.take j = ch) := htk
              have HOl : Hid ((over (pad ws N) (ch.take j)).length = N) := hol
              clear hch hown hrun htk hol
              go_wp2
              go_end0
              have ho5 := (HOwn.out.stored i (.int .u64 (orU (wd (over (pad ws N) (ch.take j)) i) b))).1
              rw [← u64s_set] at ho5
              refine ⟨rfl, ⟨.slice (some ⟨w2.heap.size, 0, none⟩) N N, ?_⟩, below_run (below_run (below_run (below_run hbel (by omega)) hle) hle) hle⟩
              unfold setW
              rw [HTk.out] at ho5 HOl ⊢
              exact run_own (by rw [heap_setCell_other wr ⟨w2.heap.size, i, none⟩ R _ hne]; exact HRun.out.blk) hle (fun e => hne e.symm) (by rw [List.length_set]; exact HOl.out) ho5
        · have t0 : decide ((k : Int) < (q : Int)) = false := decide_eq_false (by omega)
          have hNa : N ≤ rl := by omega
          have hNb : rl ≤ N := by omega
          have hmx : ¬ (rl : Int) < (i : Int) + 1 := by omega
          go_wp2_with fail
          refine (HLen.out _ HR.out).mono ?_
          rintro e w2 ⟨rfl, b2⟩
          have R2 := HR.out.below b2
          have HR2 : Hid (Run w2 base R ws false ch _ _) := R2
          have HB2 : Hid _ := b2
          have hs2 := b2.size
          have hwl := own_below HW.out b2
          clear HLen b2 R2
          go_wp2_with (at_make; refine wpList_make_full _ rfl _ _ 38 rfl base 29 i0 (.int .u64 0) 1 Try.underlying38 hi0 hz0 hz1 _ _ _ _ N rfl rfl (by omega) (by omega) ?m2 ?m3 ?m4 ?_)
          case m2 => rw [hz2]; omega
          case m3 => unfold maxLen; omega
          case m4 => omega
          intro w3 hown3 hgrow3
          rw [made_zeros'] at hown3
          have R3 := run_grown_none HR2.out hgrow3
          have B3 : Below base w0 w3 := (HB2.out.mono (by omega)).grown hgrow3 (by omega) (fun j hj => by cases hj)
          obtain ⟨d0, d1, d2, y0, y1, y2⟩ := R3.cells
          have hw3 := R3.words
          rw [← HN.out] at hw3
          have hGs := (hown3.lt w2.heap.size rfl).2
          have hne : R ≠ w2.heap.size := by omega
          have HR3 : Hid (Run w3 base R ws false ch _ _) := R3
          have hbw : Value.ownBlock _ ≠ some w2.heap.size := fun e => absurd (HR2.out.words.lt _ e).2 (Nat.lt_irrefl _)
          have hbc : Value.ownBlock _ ≠ some w2.heap.size := fun e => absurd (HR2.out.chg.lt _ e).2 (Nat.lt_irrefl _)
          have HO3 : Hid (w3.ownsRow base 29 1 (.slice (some ⟨w2.heap.size, 0, none⟩) N N) N (u64s (zeros N))) := hown3
          have HBW : Hid _ := hbw
          have HBC : Hid _ := hbc
          clear hown3 hgrow3 R3 hbw hbc hwl
          go_wp2_with (refine wpList_copy_from rfl (.tmp 158) (.tmp 162) 38 38 rfl 29 i0 1 Try.underlying38 hi0 hz1 (by decide) _ _ _ base w2.heap.size N N rfl rfl (u64s (zeros N)) HO3.out (u64s ws) (by rw [u64s_length, ← HN.out, Nat.mul_one]; exact (Nat.min_eq_left (by omega)).symm) (own_src hw3) (u64s_one ws) ?_)
          intro w4 hown4 hgrow4
          rw [copied ws N (by rw [← HN.out]; omega)] at hown4
          have R4 := run_grown HR3.out hgrow4 hne HBW.out HBC.out
          have B4 : Below base w0 w4 := B3.grown hgrow4 (by have := B3.size; omega) (fun j hj => by cases hj; omega)
          have HR4 : Hid (Run w4 base R ws false ch _ _) := R4
          have HO4 : Hid (w4.ownsRow base 29 1 (.slice (some ⟨w2.heap.size, 0, none⟩) N N) N (u64s (pad ws N))) := hown4
          obtain ⟨d0, d1, d2, y0, y1, y2⟩ := R4.cells
          obtain ⟨G, hG⟩ : ∃ G, G = w2.heap.size := ⟨_, rfl⟩
          clear hown4 hgrow4 R4 hw3
          obtain ⟨mn, hmn⟩ : ∃ mn, mn = n.min N := ⟨_, rfl⟩
          rw [← hmn]
          clear hmn
          go_wp2
          go_loopw [169] (fun s wr => ∃ j : Nat, j ≤ q ∧ s = .int .i64 j ∧ Run wr base R ws false ch (.slice _ n cw) (.slice (some ⟨gc, 0, none⟩) q cc) ∧ wr.ownsRow base 29 1 (.slice (some ⟨w2.heap.size, 0, none⟩) N N) N (u64s (over (pad ws N) (ch.take j))) ∧ Below base w0 wr ∧ w2.heap.size < wr.heap.size) (fun s _ => q - (intOf s).toNat)
          case atStart => exact ⟨0, by omega, rfl, HR4.out, HO4.out, B4, (HO4.out.lt _ rfl).2⟩
          case round =>
            clear d0 d1 d2 y0 y1 y2 B4 B3
            obtain ⟨j, hj, rfl, hrun, hown, hbel, hsz⟩ := hrel
            have HRun : Hid (Run wr base R ws false ch _ _) := hrun
            obtain ⟨d0, d1, d2, y0, y1, y2⟩ := hrun.cells
            have hch := hrun.chg
            rw [← HQ.out] at hch
            have hgl := (hch.lt gc rfl).2
            have HOwn : Hid (wr.ownsRow base 29 1 (.slice (some ⟨w2.heap.size, 0, none⟩) N N) N (u64s (over (pad ws N) (ch.take j)))) := hown
            by_cases hlt : j < q
            · have a0 : wr.cell? ⟨gc, j * 2, none⟩ = some (.int .i64 (ix ch j)) := by rw [hch.cellAt _ (by omega)]; exact (cellsL_ix ch j (by rw [← HQ.out]; exact hlt)).1
              have a1 : wr.cell? ⟨gc, j * 2 + 1, none⟩ = some (.int .u64 (bt ch j)) := by rw [hch.cellAt _ (by omega)]; exact (cellsL_ix ch j (by rw [← HQ.out]; exact hlt)).2
              have hxb := HIx.out j hlt
              obtain ⟨x, hx⟩ : ∃ x : Nat, ix ch j = (x : Int) := ⟨(ix ch j).toNat, by omega⟩
              rw [hx] at a0 hxb
              have hxN : x < N := by omega
              obtain ⟨v0, o0⟩ := one_cell hown x hxN
              have z0 := hown.frozenAt x
              have o1 : ∀ o, (wr.alloc o).cell? ⟨w2.heap.size, x, none⟩ = some v0 := fun o => by rw [← o0]; exact World.cell?_of_block (w := wr) (Below.heap_alloc wr o _ hsz)
              have z1 : ∀ o, (wr.alloc o).frozen? ⟨w2.heap.size, x, none⟩ = false := fun o => by rw [← z0]; exact World.frozen?_of_block (w := wr) (Below.heap_alloc wr o _ hsz)
              have HX2 : Hid (ix ch j = (x : Int)) := hx
              clear hch hown hrun hx o0 z0
              go_wp2
              go_roundw
              case rel => exact ⟨j + 1, by omega, by go_num, (run_beside (N := 0) (c := 0) (xs := []) HRun.out hne HBW.out HBC.out).alloc _, (over_step HOwn.out (by rw [← HQ.out]; exact hlt) HX2.out).alloc _, (below_run hbel (by omega)).alloc (by simp [World.setCell]; omega) _, by simp [World.setCell]; omega⟩
              case measure => simp [intOf]; omega
            · have e1 := hown.cellAt i (by omega)
              have hol : (over (pad ws N) (ch.take j)).length = N := by have := hown.1; rw [u64s_length] at this; omega
              rw [u64s_at _ _ (by rw [hol]; omega)] at e1
              have z0 := hown.frozenAt i
              have htk : ch.take j = ch := List.take_of_length_le (by rw [← HQ.out]; omega)
              have HTk : Hid (ch.take j = ch) := htk
              have HOl : Hid ((over (pad ws N) (ch.take j)).length = N) := hol
              clear hch hown hrun htk hol
              go_wp2
              go_end0
              have ho5 := (HOwn.out.stored i (.int .u64 (orU (wd (over (pad ws N) (ch.take j)) i) b))).1
              rw [← u64s_set] at ho5
              refine ⟨rfl, ⟨.slice (some ⟨w2.heap.size, 0, none⟩) N N, ?_⟩, below_run (below_run (below_run (below_run hbel (by omega)) hle) hle) hle⟩
              unfold setW
              rw [HTk.out] at ho5 HOl ⊢
              exact run_own (by rw [heap_setCell_other wr ⟨w2.heap.size, i, none⟩ R _ hne]; exact HRun.out.blk) hle (fun e => hne e.symm) (by rw [List.length_set]; exact HOl.out) ho5
      · have tb : (bits .and .u64 0 b != 0) = false := by rw [andU_zero']; rfl
        clear hbit
        by_cases hkq : k < q
        · have hxj := HX.out k hkq
          have hhj := HHigh.out hkq
          have t1 : (ix ch k == (i : Int)) = false := beq_eq_false_iff_ne.2 (by omega)
          have t2 : ¬ ix ch k < (i : Int) := by omega
          by_cases hmx : (rl : Int) < (i : Int) + 1
          · have hNa : N ≤ i + 1 := by omega
            have hNb : i + 1 ≤ N := by omega
            go_wp2_with fail
            refine (HLen.out _ HR.out).mono ?_
            rintro e w2 ⟨rfl, b2⟩
            have R2 := HR.out.below b2
            have HR2 : Hid (Run w2 base R ws false ch _ _) := R2
            have HB2 : Hid _ := b2
            have hs2 := b2.size
            have hwl := own_below HW.out b2
            clear HLen b2 R2
            go_wp2_with (at_make; refine wpList_make_full _ rfl _ _ 38 rfl base 29 i0 (.int .u64 0) 1 Try.underlying38 hi0 hz0 hz1 _ _ _ _ N rfl rfl (by omega) (by omega) ?m2 ?m3 ?m4 ?_)
            case m2 => rw [hz2]; omega
            case m3 => unfold maxLen; omega
            case m4 => omega
            intro w3 hown3 hgrow3
            rw [made_zeros'] at hown3
            have R3 := run_grown_none HR2.out hgrow3
            have B3 : Below base w0 w3 := (HB2.out.mono (by omega)).grown hgrow3 (by omega) (fun j hj => by cases hj)
            obtain ⟨d0, d1, d2, y0, y1, y2⟩ := R3.cells
            have hw3 := R3.words
            rw [← HN.out] at hw3
            have hGs := (hown3.lt w2.heap.size rfl).2
            have hne : R ≠ w2.heap.size := by omega
            have HR3 : Hid (Run w3 base R ws false ch _ _) := R3
            have hbw : Value.ownBlock _ ≠ some w2.heap.size := fun e => absurd (HR2.out.words.lt _ e).2 (Nat.lt_irrefl _)
            have hbc : Value.ownBlock _ ≠ some w2.heap.size := fun e => absurd (HR2.out.chg.lt _ e).2 (Nat.lt_irrefl _)
            have HO3 : Hid (w3.ownsRow base 29 1 (.slice (some ⟨w2.heap.size, 0, none⟩) N N) N (u64s (zeros N))) := hown3
            have HBW : Hid _ := hbw
            have HBC : Hid _ := hbc
            clear hown3 hgrow3 R3 hbw hbc hwl
            go_wp2_with (refine wpList_copy_from rfl (.tmp 158) (.tmp 162) 38 38 rfl 29 i0 1 Try.underlying38 hi0 hz1 (by decide) _ _ _ base w2.heap.size N N rfl rfl (u64s (zeros N)) HO3.out (u64s ws) (by rw [u64s_length, ← HN.out, Nat.mul_one]; exact (Nat.min_eq_left (by omega)).symm) (own_src hw3) (u64s_one ws) ?_)
            intro w4 hown4 hgrow4
            rw [copied ws N (by rw [← HN.out]; omega)] at hown4
            have R4 := run_grown HR3.out hgrow4 hne HBW.out HBC.out
            have B4 : Below base w0 w4 := B3.grown hgrow4 (by have := B3.size; omega) (fun j hj => by cases hj; omega)
            have HR4 : Hid (Run w4 base R ws false ch _ _) := R4
            have HO4 : Hid (w4.ownsRow base 29 1 (.slice (some ⟨w2.heap.size, 0, none⟩) N N) N (u64s (pad ws N))) := hown4
            obtain ⟨d0, d1, d2, y0, y1, y2⟩ := R4.cells
            obtain ⟨G, hG⟩ : ∃ G, G = w2.heap.size := ⟨_, rfl⟩
            clear hown4 hgrow4 R4 hw3
            obtain ⟨mn, hmn⟩ : ∃ mn, mn = n.min N := ⟨_, rfl⟩
            rw [← hmn]
            clear hmn
            go_wp2
            go_loopw [169] (fun s wr => ∃ j : Nat, j ≤ q ∧ s = .int .i64 j ∧ Run wr base R ws false ch (.slice _ n cw) (.slice (some ⟨gc, 0, none⟩) q cc) ∧ wr.ownsRow base 29 1 (.slice (some ⟨w2.heap.size, 0, none⟩) N N) N (u64s (over (pad ws N) (ch.take j))) ∧ Below base w0 wr ∧ w2.heap.size < wr.heap.size) (fun s _ => q - (intOf s).toNat)
            case atStart => exact ⟨0, by omega, rfl, HR4.out, HO4.out, B4, (HO4.out.lt _ rfl).2⟩
            case round =>
              clear d0 d1 d2 y0 y1 y2 B4 B3
              obtain ⟨j, hj, rfl, hrun, hown, hbel, hsz⟩ := hrel
              have HRun : Hid (Run wr base R ws false ch _ _) := hrun
              obtain ⟨d0, d1, d2, y0, y1, y2⟩ := hrun.cells
              have hch := hrun.chg
              rw [← HQ.out] at hch
              have hgl := (hch.lt gc rfl).2
              have HOwn : Hid (wr.ownsRow base 29 1 (.slice (some ⟨w2.heap.size, 0, none⟩) N N) N (u64s (over (pad ws N) (ch.take j)))) := hown
              by_cases hlt : j < q
              · have a0 : wr.cell? ⟨gc, j * 2, none⟩ = some (.int .i64 (ix ch j)) := by rw [hch.cellAt _ (by omega)]; exact (cellsL_ix ch j (by rw [← HQ.out]; exact hlt)).1
                have a1 : wr.cell? ⟨gc, j * 2 + 1, none⟩ = some (.int .u64 (bt ch j)) := by rw [hch.cellAt _ (by omega)]; exact (cellsL_ix ch j (by rw [← HQ.out]; exact hlt)).2
                have hxb := HIx.out j hlt
                obtain ⟨x, hx⟩ : ∃ x : Nat, ix ch j = (x : Int) := ⟨(ix ch j).toNat, by omega⟩
                rw [hx] at a0 hxb
                have hxN : x < N := by omega
                obtain ⟨v0, o0⟩ := one_cell hown x hxN
                have z0 := hown.frozenAt x
                have o1 : ∀ o, (wr.alloc o).cell? ⟨w2.heap.size, x, none⟩ = some v0 := fun o => by rw [← o0]; exact World.cell?_of_block (w := wr) (Below.heap_alloc wr o _ hsz)
                have z1 : ∀ o, (wr.alloc o).frozen? ⟨w2.heap.size, x, none⟩ = false := fun o => by rw [← z0]; exact World.frozen?_of_block (w := wr) (Below.heap_alloc wr o _ hsz)
                have HX2 : Hid (ix ch j = (x : Int)) := hx
                clear hch hown hrun hx o0 z0
                go_wp2
                go_roundw
                case rel => exact ⟨j + 1, by omega, by go_num, (run_beside (N := 0) (c := 0) (xs := []) HRun.out hne HBW.out HBC.out).alloc _, (over_step HOwn.out (by rw [← HQ.out]; exact hlt) HX2.out).alloc _, (below_run hbel (by omega)).alloc (by simp [World.setCell]; omega) _, by simp [World.setCell]; omega⟩
                case measure => simp [intOf]; omega
              · have e1 := hown.cellAt i (by omega)
                have hol : (over (pad ws N) (ch.take j)).length = N := by have := hown.1; rw [u64s_length] at this; omega
                rw [u64s_at _ _ (by rw [hol]; omega)] at e1
                have z0 := hown.frozenAt i
                have htk : ch.take j = ch := List.take_of_length_le (by rw [← HQ.out]; omega)
                have HTk : Hid (ch.take j = ch) := htk
                have HOl : Hid ((over (pad ws N) (ch.take j)).length = N) := hol
                clear hch hown hrun htk hol
                go_wp2
                go_end0
                have ho5 := (HOwn.out.stored i (.int .u64 (orU (wd (over (pad ws N) (ch.take j)) i) b))).1
                rw [← u64s_set] at ho5
                refine ⟨rfl, ⟨.slice (some ⟨w2.heap.size, 0, none⟩) N N, ?_⟩, below_run (below_run (below_run (below_run hbel (by omega)) hle) hle) hle⟩
                unfold setW
                rw [HTk.out] at ho5 HOl ⊢
                exact run_own (by rw [heap_setCell_other wr ⟨w2.heap.size, i, none⟩ R _ hne]; exact HRun.out.blk) hle (fun e => hne e.symm) (by rw [List.length_set]; exact HOl.out) ho5
          · have hNa : N ≤ rl := by omega
            have hNb : rl ≤ N := by omega
            go_wp2_with fail
            refine (HLen.out _ HR.out).mono ?_
            rintro e w2 ⟨rfl, b2⟩
            have R2 := HR.out.below b2
            have HR2 : Hid (Run w2 base R ws false ch _ _) := R2
            have HB2 : Hid _ := b2
            have hs2 := b2.size
            have hwl := own_below HW.out b2
            clear HLen b2 R2
            go_wp2_with (at_make; refine wpList_make_full _ rfl _ _ 38 rfl base 29 i0 (.int .u64 0) 1 Try.underlying38 hi0 hz0 hz1 _ _ _ _ N rfl rfl (by omega) (by omega) ?m2 ?m3 ?m4 ?_)
            case m2 => rw [hz2]; omega
            case m3 => unfold maxLen; omega
            case m4 => omega
            intro w3 hown3 hgrow3
            rw [made_zeros'] at hown3
            have R3 := run_grown_none HR2.out hgrow3
            have B3 : Below base w0 w3 := (HB2.out.mono (by omega)).grown hgrow3 (by omega) (fun j hj => by cases hj)
            obtain ⟨d0, d1, d2, y0, y1, y2⟩ := R3.cells
            have hw3 := R3.words
            rw [← HN.out] at hw3
            have hGs := (hown3.lt w2.heap.size rfl).2
            have hne : R ≠ w2.heap.size := by omega
            have HR3 : Hid (Run w3 base R ws false ch _ _) := R3
            have hbw : Value.ownBlock _ ≠ some w2.heap.size := fun e => absurd (HR2.out.words.lt _ e).2 (Nat.lt_irrefl _)
            have hbc : Value.ownBlock _ ≠ some w2.heap.size := fun e => absurd (HR2.out.chg.lt _ e).2 (Nat.lt_irrefl _)
            have HO3 : Hid (w3.ownsRow base 29 1 (.slice (some ⟨w2.heap.size, 0, none⟩) N N) N (u64s (zeros N))) := hown3
            have HBW : Hid _ := hbw
            have HBC : Hid _ := hbc
            clear hown3 hgrow3 R3 hbw hbc hwl
            go_wp2_with (refine wpList_copy_from rfl (.tmp 158) (.tmp 162) 38 38 rfl 29 i0 1 Try.underlying38 hi0 hz1 (by decide) _ _ _ base w2.heap.size N N rfl rfl (u64s (zeros N)) HO3.out (u64s ws) (by rw [u64s_length, ← HN.out, Nat.mul_one]; exact (Nat.min_eq_left (by omega)).symm) (own_src hw3) (u64s_one ws) ?_)
            intro w4 hown4 hgrow4
            rw [copied ws N (by rw [← HN.out]; omega)] at hown4
            have R4 := run_grown HR3.out hgrow4 hne HBW.out HBC.out
            have B4 : Below base w0 w4 := B3.grown hgrow4 (by have := B3.size; omega) (fun j hj => by cases hj; omega)
            have HR4 : Hid (Run w4 base R ws false ch _ _) := R4
            have HO4 : Hid (w4.ownsRow base 29 1 (.slice (some ⟨w2.heap.size, 0, none⟩) N N) N (u64s (pad ws N))) := hown4
            obtain ⟨d0, d1, d2, y0, y1, y2⟩ := R4.cells
            obtain ⟨G, hG⟩ : ∃ G, G = w2.heap.size := ⟨_, rfl⟩
            clear hown4 hgrow4 R4 hw3
            obtain ⟨mn, hmn⟩ : ∃ mn, mn = n.min N := ⟨_, rfl⟩
            rw [← hmn]
            clear hmn
            go_wp2
            go_loopw [169] (fun s wr => ∃ j : Nat, j ≤ q ∧ s = .int .i64 j ∧ Run wr base R ws false ch (.slice _ n cw) (.slice (some ⟨gc, 0, none⟩) q cc) ∧ wr.ownsRow base 29 1 (.slice (some ⟨w2.heap.size, 0, none⟩) N N) N (u64s (over (pad ws N) (ch.take j))) ∧ Below base w0 wr ∧ w2.heap.size < wr.heap.size) (fun s _ => q - (intOf s).toNat)
            case atStart => exact ⟨0, by omega, rfl, HR4.out, HO4.out, B4, (HO4.out.lt _ rfl).2⟩
            case round =>
              clear d0 d1 d2 y0 y1 y2 B4 B3
              obtain ⟨j, hj, rfl, hrun, hown, hbel, hsz⟩ := hrel
              have HRun : Hid (Run wr base R ws false ch _ _) := hrun
              obtain ⟨d0, d1, d2, y0, y1, y2⟩ := hrun.cells
              have hch := hrun.chg
              rw [← HQ.out] at hch
              have hgl := (hch.lt gc rfl).2
              have HOwn : Hid (wr.ownsRow base 29 1 (.slice (some ⟨w2.heap.size, 0, none⟩) N N) N (u64s (over (pad ws N) (ch.take j)))) := hown
              by_cases hlt : j < q
              · have a0 : wr.cell? ⟨gc, j * 2, none⟩ = some (.int .i64 (ix ch j)) := by rw [hch.cellAt _ (by omega)]; exact (cellsL_ix ch j (by rw [← HQ.out]; exact hlt)).1
                have a1 : wr.cell? ⟨gc, j * 2 + 1, none⟩ = some (.int .u64 (bt ch j)) := by rw [hch.cellAt _ (by omega)]; exact (cellsL_ix ch j (by rw [← HQ.out]; exact hlt)).2
                have hxb := HIx.out j hlt
                obtain ⟨x, hx⟩ : ∃ x : Nat, ix ch j = (x : Int) := ⟨(ix ch j).toNat, by omega⟩
                rw [hx] at a0 hxb
                have hxN : x < N := by omega
                obtain ⟨v0, o0⟩ := one_cell hown x hxN
                have z0 := hown.frozenAt x
                have o1 : ∀ o, (wr.alloc o).cell? ⟨w2.heap.size, x, none⟩ = some v0 := fun o => by rw [← o0]; exact World.cell?_of_block (w := wr) (Below.heap_alloc wr o _ hsz)
                have z1 : ∀ o, (wr.alloc o).frozen? ⟨w2.heap.size, x, none⟩ = false := fun o => by rw [← z0]; exact World.frozen?_of_block (w := wr) (Below.heap_alloc wr o _ hsz)
                have HX2 : Hid (ix ch j = (x : Int)) := hx
                clear hch hown hrun hx o0 z0
                go_wp2
                go_roundw
                case rel => exact ⟨j + 1, by omega, by go_num, (run_beside (N := 0) (c := 0) (xs := []) HRun.out hne HBW.out HBC.out).alloc _, (over_step HOwn.out (by rw [← HQ.out]; exact hlt) HX2.out).alloc _, (below_run hbel (by omega)).alloc (by simp [World.setCell]; omega) _, by simp [World.setCell]; omega⟩
                case measure => simp [intOf]; omega
              · have e1 := hown.cellAt i (by omega)
                have hol : (over (pad ws N) (ch.take j)).length = N := by have := hown.1; rw [u64s_length] at this; omega
                rw [u64s_at _ _ (by rw [hol]; omega)] at e1
                have z0 := hown.frozenAt i
                have htk : ch.take j = ch := List.take_of_length_le (by rw [← HQ.out]; omega)
                have HTk : Hid (ch.take j = ch) := htk
                have HOl : Hid ((over (pad ws N) (ch.take j)).length = N) := hol
                clear hch hown hrun htk hol
                go_wp2
                go_end0
                have ho5 := (HOwn.out.stored i (.int .u64 (orU (wd (over (pad ws N) (ch.take j)) i) b))).1
                rw [← u64s_set] at ho5
                refine ⟨rfl, ⟨.slice (some ⟨w2.heap.size, 0, none⟩) N N, ?_⟩, below_run (below_run (below_run (below_run hbel (by omega)) hle) hle) hle⟩
                unfold setW
                rw [HTk.out] at ho5 HOl ⊢
                exact run_own (by rw [heap_setCell_other wr ⟨w2.heap.size, i, none⟩ R _ hne]; exact HRun.out.blk) hle (fun e => hne e.symm) (by rw [List.length_set]; exact HOl.out) ho5
        · have t0 : decide ((k : Int) < (q : Int)) = false := decide_eq_false (by omega)
          by_cases hmx : (rl : Int) < (i : Int) + 1
          · have hNa : N ≤ i + 1 := by omega
            have hNb : i + 1 ≤ N := by omega
            go_wp2_with fail
            refine (HLen.out _ HR.out).mono ?_
            rintro e w2 ⟨rfl, b2⟩
            have R2 := HR.out.below b2
            have HR2 : Hid (Run w2 base R ws false ch _ _) := R2
            have HB2 : Hid _ := b2
            have hs2 := b2.size
            have hwl := own_below HW.out b2
            clear HLen b2 R2
            go_wp2_with (at_make; refine wpList_make_full _ rfl _ _ 38 rfl base 29 i0 (.int .u64 0) 1 Try.underlying38 hi0 hz0 hz1 _ _ _ _ N rfl rfl (by omega) (by omega) ?m2 ?m3 ?m4 ?_)
            case m2 => rw [hz2]; omega
            case m3 => unfold maxLen; omega
            case m4 => omega
            intro w3 hown3 hgrow3
            rw [made_zeros'] at hown3
            have R3 := run_grown_none HR2.out hgrow3
            have B3 : Below base w0 w3 := (HB2.out.mono (by omega)).grown hgrow3 (by omega) (fun j hj => by cases hj)
            obtain ⟨d0, d1, d2, y0, y1, y2⟩ := R3.cells
            have hw3 := R3.words
            rw [← HN.out] at hw3
            have hGs := (hown3.lt w2.heap.size rfl).2
            have hne : R ≠ w2.heap.size := by omega
            have HR3 : Hid (Run w3 base R ws false ch _ _) := R3
            have hbw : Value.ownBlock _ ≠ some w2.heap.size := fun e => absurd (HR2.out.words.lt _ e).2 (Nat.lt_irrefl _)
            have hbc : Value.ownBlock _ ≠ some w2.heap.size := fun e => absurd (HR2.out.chg.lt _ e).2 (Nat.lt_irrefl _)
            have HO3 : Hid (w3.ownsRow base 29 1 (.slice (some ⟨w2.heap.size, 0, none⟩) N N) N (u64s (zeros N))) := hown3
            have HBW : Hid _ := hbw
            have HBC : Hid _ := hbc
            clear hown3 hgrow3 R3 hbw hbc hwl
            go_wp2_with (refine wpList_copy_from rfl (.tmp 158) (.tmp 162) 38 38 rfl 29 i0 1 Try.underlying38 hi0 hz1 (by decide) _ _ _ base w2.heap.size N N rfl rfl (u64s (zeros N)) HO3.out (u64s ws) (by rw [u64s_length, ← HN.out, Nat.mul_one]; exact (Nat.min_eq_left (by omega)).symm) (own_src hw3) (u64s_one ws) ?_)
            intro w4 hown4 hgrow4
            rw [copied ws N (by rw [← HN.out]; omega)] at hown4
            have R4 := run_grown HR3.out hgrow4 hne HBW.out HBC.out
            have B4 : Below base w0 w4 := B3.grown hgrow4 (by have := B3.size; omega) (fun j hj => by cases hj; omega)
            have HR4 : Hid (Run w4 base R ws false ch _ _) := R4
            have HO4 : Hid (w4.ownsRow base 29 1 (.slice (some ⟨w2.heap.size, 0, none⟩) N N) N (u64s (pad ws N))) := hown4
            obtain ⟨d0, d1, d2, y0, y1, y2⟩ := R4.cells
            obtain ⟨G, hG⟩ : ∃ G, G = w2.heap.size := ⟨_, rfl⟩
            clear hown4 hgrow4 R4 hw3
            obtain ⟨mn, hmn⟩ : ∃ mn, mn = n.min N := ⟨_, rfl⟩
            rw [← hmn]
            clear hmn
            go_wp2
            go_loopw [169] (fun s wr => ∃ j : Nat, j ≤ q ∧ s = .int .i64 j ∧ Run wr base R ws false ch (.slice _ n cw) (.slice (some ⟨gc, 0, none⟩) q cc) ∧ wr.ownsRow base 29 1 (.slice (some ⟨w2.heap.size, 0, none⟩) N N) N (u64s (over (pad ws N) (ch.take j))) ∧ Below base w0 wr ∧ w2.heap.size < wr.heap.size) (fun s _ => q - (intOf s).toNat)
            case atStart => exact ⟨0, by omega, rfl, HR4.out, HO4.out, B4, (HO4.out.lt _ rfl).2⟩
            case round =>
              clear d0 d1 d2 y0 y1 y2 B4 B3
              obtain ⟨j, hj, rfl, hrun, hown, hbel, hsz⟩ := hrel
              have HRun : Hid (Run wr base R ws false ch _ _) := hrun
              obtain ⟨d0, d1, d2, y0, y1, y2⟩ := hrun.cells
              have hch := hrun.chg
              rw [← HQ.out] at hch
              have hgl := (hch.lt gc rfl).2
              have HOwn : Hid (wr.ownsRow base 29 1 (.slice (some ⟨w2.heap.size, 0, none⟩) N N) N (u64s (over (pad ws N) (ch.take j)))) := hown
              by_cases hlt : j < q
              · have a0 : wr.cell? ⟨gc, j * 2, none⟩ = some (.int .i64 (ix ch j)) := by rw [hch.cellAt _ (by omega)]; exact (cellsL_ix ch j (by rw [← HQ.out]; exact hlt)).1
                have a1 : wr.cell? ⟨gc, j * 2 + 1, none⟩ = some (.int .u64 (bt ch j)) := by rw [hch.cellAt _ (by omega)]; exact (cellsL_ix ch j (by rw [← HQ.out]; exact hlt)).2
                have hxb := HIx.out j hlt
                obtain ⟨x, hx⟩ : ∃ x : Nat, ix ch j = (x : Int) := ⟨(ix ch j).toNat, by omega⟩
                rw [hx] at a0 hxb
                have hxN : x < N := by omega
                obtain ⟨v0, o0⟩ := one_cell hown x hxN
                have z0 := hown.frozenAt x
                have o1 : ∀ o, (wr.alloc o).cell? ⟨w2.heap.size, x, none⟩ = some v0 := fun o => by rw [← o0]; exact World.cell?_of_block (w := wr) (Below.heap_alloc wr o _ hsz)
                have z1 : ∀ o, (wr.alloc o).frozen? ⟨w2.heap.size, x, none⟩ = false := fun o => by rw [← z0]; exact World.frozen?_of_block (w := wr) (Below.heap_alloc wr o _ hsz)
                have HX2 : Hid (ix ch j = (x : Int)) := hx
                clear hch hown hrun hx o0 z0
                go_wp2
                go_roundw
                case rel => exact ⟨j + 1, by omega, by go_num, (run_beside (N := 0) (c := 0) (xs := []) HRun.out hne HBW.out HBC.out).alloc _, (over_step HOwn.out (by rw [← HQ.out]; exact hlt) HX2.out).alloc _, (below_run hbel (by omega)).alloc (by simp [World.setCell]; omega) _, by simp [World.setCell]; omega⟩
                case measure => simp [intOf]; omega
              · have e1 := hown.cellAt i (by omega)
                have hol : (over (pad ws N) (ch.take j)).length = N := by have := hown.1; rw [u64s_length] at this; omega
                rw [u64s_at _ _ (by rw [hol]; omega)] at e1
                have z0 := hown.frozenAt i
                have htk : ch.take j = ch := List.take_of_length_le (by rw [← HQ.out]; omega)
                have HTk : Hid (ch.take j = ch) := htk
                have HOl : Hid ((over (pad ws N) (ch.take j)).length = N) := hol
                clear hch hown hrun htk hol
                go_wp2
                go_end0
                have ho5 := (HOwn.out.stored i (.int .u64 (orU (wd (over (pad ws N) (ch.take j)) i) b))).1
                rw [← u64s_set] at ho5
                refine ⟨rfl, ⟨.slice (some ⟨w2.heap.size, 0, none⟩) N N, ?_⟩, below_run (below_run (below_run (below_run hbel (by omega)) hle) hle) hle⟩
                unfold setW
                rw [HTk.out] at ho5 HOl ⊢
                exact run_own (by rw [heap_setCell_other wr ⟨w2.heap.size, i, none⟩ R _ hne]; exact HRun.out.blk) hle (fun e => hne e.symm) (by rw [List.length_set]; exact HOl.out) ho5
          · have hNa : N ≤ rl := by omega
            have hNb : rl ≤ N := by omega
            go_wp2_with fail
            refine (HLen.out _ HR.out).mono ?_
            rintro e w2 ⟨rfl, b2⟩
            have R2 := HR.out.below b2
            have HR2 : Hid (Run w2 base R ws false ch _ _) := R2
            have HB2 : Hid _ := b2
            have hs2 := b2.size
            have hwl := own_below HW.out b2
            clear HLen b2 R2
            go_wp2_with (at_make; refine wpList_make_full _ rfl _ _ 38 rfl base 29 i0 (.int .u64 0) 1 Try.underlying38 hi0 hz0 hz1 _ _ _ _ N rfl rfl (by omega) (by omega) ?m2 ?m3 ?m4 ?_)
            case m2 => rw [hz2]; omega
            case m3 => unfold maxLen; omega
            case m4 => omega
            intro w3 hown3 hgrow3
            rw [made_zeros'] at hown3
            have R3 := run_grown_none HR2.out hgrow3
            have B3 : Below base w0 w3 := (HB2.out.mono (by omega)).grown hgrow3 (by omega) (fun j hj => by cases hj)
            obtain ⟨d0, d1, d2, y0, y1, y2⟩ := R3.cells
            have hw3 := R3.words
            rw [← HN.out] at hw3
            have hGs := (hown3.lt w2.heap.size rfl).2
            have hne : R ≠ w2.heap.size := by omega
            have HR3 : Hid (Run w3 base R ws false ch _ _) := R3
            have hbw : Value.ownBlock _ ≠ some w2.heap.size := fun e => absurd (HR2.out.words.lt _ e).2 (Nat.lt_irrefl _)
            have hbc : Value.ownBlock _ ≠ some w2.heap.size := fun e => absurd (HR2.out.chg.lt _ e).2 (Nat.lt_irrefl _)
            have HO3 : Hid (w3.ownsRow base 29 1 (.slice (some ⟨w2.heap.size, 0, none⟩) N N) N (u64s (zeros N))) := hown3
            have HBW : Hid _ := hbw
            have HBC : Hid _ := hbc
            clear hown3 hgrow3 R3 hbw hbc hwl
            go_wp2_with (refine wpList_copy_from rfl (.tmp 158) (.tmp 162) 38 38 rfl 29 i0 1 Try.underlying38 hi0 hz1 (by decide) _ _ _ base w2.heap.size N N rfl rfl (u64s (zeros N)) HO3.out (u64s ws) (by rw [u64s_length, ← HN.out, Nat.mul_one]; exact (Nat.min_eq_left (by omega)).symm) (own_src hw3) (u64s_one ws) ?_)
            intro w4 hown4 hgrow4
            rw [copied ws N (by rw [← HN.out]; omega)] at hown4
            have R4 := run_grown HR3.out hgrow4 hne HBW.out HBC.out
            have B4 : Below base w0 w4 := B3.grown hgrow4 (by have := B3.size; omega) (fun j hj => by cases hj; omega)
            have HR4 : Hid (Run w4 base R ws false ch _ _) := R4
            have HO4 : Hid (w4.ownsRow base 29 1 (.slice (some ⟨w2.heap.size, 0, none⟩) N N) N (u64s (pad ws N))) := hown4
            obtain ⟨d0, d1, d2, y0, y1, y2⟩ := R4.cells
            obtain ⟨G, hG⟩ : ∃ G, G = w2.heap.size := ⟨_, rfl⟩
            clear hown4 hgrow4 R4 hw3
            obtain ⟨mn, hmn⟩ : ∃ mn, mn = n.min N := ⟨_, rfl⟩
            rw [← hmn]
            clear hmn
            go_wp2
            go_loopw [169] (fun s wr => ∃ j : Nat, j ≤ q ∧ s = .int .i64 j ∧ Run wr base R ws false ch (.slice _ n cw) (.slice (some ⟨gc, 0, none⟩) q cc) ∧ wr.ownsRow base 29 1 (.slice (some ⟨w2.heap.size, 0, none⟩) N N) N (u64s (over (pad ws N) (ch.take j))) ∧ Below base w0 wr ∧ w2.heap.size < wr.heap.size) (fun s _ => q - (intOf s).toNat)
            case atStart => exact ⟨0, by omega, rfl, HR4.out, HO4.out, B4, (HO4.out.lt _ rfl).2⟩
            case round =>
              clear d0 d1 d2 y0 y1 y2 B4 B3
              obtain ⟨j, hj, rfl, hrun, hown, hbel, hsz⟩ := hrel
              have HRun : Hid (Run wr base R ws false ch _ _) := hrun
              obtain ⟨d0, d1, d2, y0, y1, y2⟩ := hrun.cells
              have hch := hrun.chg
              rw [← HQ.out] at hch
              have hgl := (hch.lt gc rfl).2
              have HOwn : Hid (wr.ownsRow base 29 1 (.slice (some ⟨w2.heap.size, 0, none⟩) N N) N (u64s (over (pad ws N) (ch.take j)))) := hown
              by_cases hlt : j < q
              · have a0 : wr.cell? ⟨gc, j * 2, none⟩ = some (.int .i64 (ix ch j)) := by rw [hch.cellAt _ (by omega)]; exact (cellsL_ix ch j (by rw [← HQ.out]; exact hlt)).1
                have a1 : wr.cell? ⟨gc, j * 2 + 1, none⟩ = some (.int .u64 (bt ch j)) := by rw [hch.cellAt _ (by omega)]; exact (cellsL_ix ch j (by rw [← HQ.out]; exact hlt)).2
                have hxb := HIx.out j hlt
                obtain ⟨x, hx⟩ : ∃ x : Nat, ix ch j = (x : Int) := ⟨(ix ch j).toNat, by omega⟩
                rw [hx] at a0 hxb
                have hxN : x < N := by omega
                obtain ⟨v0, o0⟩ := one_cell hown x hxN
                have z0 := hown.frozenAt x
                have o1 : ∀ o, (wr.alloc o).cell? ⟨w2.heap.size, x, none⟩ = some v0 := fun o => by rw [← o0]; exact World.cell?_of_block (w := wr) (Below.heap_alloc wr o _ hsz)
                have z1 : ∀ o, (wr.alloc o).frozen? ⟨w2.heap.size, x, none⟩ = false := fun o => by rw [← z0]; exact World.frozen?_of_block (w := wr) (Below.heap_alloc wr o _ hsz)
                have HX2 : Hid (ix ch j = (x : Int)) := hx
                clear hch hown hrun hx o0 z0
                go_wp2
                go_roundw
                case rel => exact ⟨j + 1, by omega, by go_num, (run_beside (N := 0) (c := 0) (xs := []) HRun.out hne HBW.out HBC.out).alloc _, (over_step HOwn.out (by rw [← HQ.out]; exact hlt) HX2.out).alloc _, (below_run hbel (by omega)).alloc (by simp [World.setCell]; omega) _, by simp [World.setCell]; omega⟩
                case measure => simp [intOf]; omega
              · have e1 := hown.cellAt i (by omega)
                have hol : (over (pad ws N) (ch.take j)).length = N := by have := hown.1; rw [u64s_length] at this; omega
                rw [u64s_at _ _ (by rw [hol]; omega)] at e1
                have z0 := hown.frozenAt i
                have htk : ch.take j = ch := List.take_of_length_le (by rw [← HQ.out]; omega)
                have HTk : Hid (ch.take j = ch) := htk
                have HOl : Hid ((over (pad ws N) (ch.take j)).length = N) := hol
                clear hch hown hrun htk hol
                go_wp2
                go_end0
                have ho5 := (HOwn.out.stored i (.int .u64 (orU (wd (over (pad ws N) (ch.take j)) i) b))).1
                rw [← u64s_set] at ho5
                refine ⟨rfl, ⟨.slice (some ⟨w2.heap.size, 0, none⟩) N N, ?_⟩, below_run (below_run (below_run (below_run hbel (by omega)) hle) hle) hle⟩
                unfold setW
                rw [HTk.out] at ho5 HOl ⊢
                exact run_own (by rw [heap_setCell_other wr ⟨w2.heap.size, i, none⟩ R _ hne]; exact HRun.out.blk) hle (fun e => hne e.symm) (by rw [List.length_set]; exact HOl.out) ho5

end Go.Proofs.Qxb6600021a
