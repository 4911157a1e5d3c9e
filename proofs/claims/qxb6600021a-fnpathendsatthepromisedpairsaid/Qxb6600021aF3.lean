/-
  edgesEndTheirChains (38), backOf (47), reached (49), zzBytes (37).
-/
import Derived.Test.Qxb6600021aF2
namespace Go.Proofs.Qxb6600021a
open Go.RowKit
set_option linter.unusedVariables false

/-- What the map holds at c after the first k edges. -/
def backTo (L : List Edge) : Nat → Cel → Option Cel
  | 0, _ => none
  | k + 1, c => if ke L k = c then some (bk L k) else backTo L k c
def back (L : List Edge) (c : Cel) : Option Cel := backTo L L.length c

def Chains (L : List Edge) : Prop := ∀ i j, i ≤ j → j < L.length → bk L i ≠ c0 → ke L j ≠ bk L i

theorem eqc69 (a b : Cel) (w : World) : (binOp .eql 69 (.agg #[.int .i64 a.f, .int .i64 a.t, .bool a.m]) (.agg #[.int .i64 b.f, .int .i64 b.t, .bool b.m])).run Try.prog w = .ok (.bool (decide (a = b))) w := eq69 w a b
theorem eqz69 (a : Cel) (w : World) : (binOp .eql 69 (.agg #[.int .i64 a.f, .int .i64 a.t, .bool a.m]) (.agg #[.int .i64 0, .int .i64 0, .bool false])).run Try.prog w = .ok (.bool (decide (a = c0))) w := eq69 w a c0


/-- A new block of three cells. -/
theorem new3 (w : World) (x y z : Value) (t : TypeId) : (w.alloc (.cells #[x, y, z] t)).cell? ⟨w.heap.size, 0, none⟩ = some x ∧ (w.alloc (.cells #[x, y, z] t)).cell? ⟨w.heap.size, 1, none⟩ = some y ∧ (w.alloc (.cells #[x, y, z] t)).cell? ⟨w.heap.size, 2, none⟩ = some z := by
  refine ⟨?_, ?_, ?_⟩
  · rw [cell_of_row _ w.heap.size 0 #[x, y, z] t (0, 0) (heap_alloc_new w _)]; rfl
  · rw [cell_of_row _ w.heap.size 1 #[x, y, z] t (0, 0) (heap_alloc_new w _)]; rfl
  · rw [cell_of_row _ w.heap.size 2 #[x, y, z] t (0, 0) (heap_alloc_new w _)]; rfl

set_option maxHeartbeats 1000000 in
set_option maxRecDepth 100000 in
theorem chains38 {v : Value} {L : List Edge} (w : World) (h : Egs w v L) (hs : L.length ≤ 4096) :
    Calls Try.prog 38 #[v] w fun e w' => ∃ b, e = .returned (.bool b) ∧ (b = true → Chains L) ∧ Below w.heap.size w w' := by
  obtain ⟨a, n, c, rfl, hn, _, hM, hf⟩ := Egs.form h
  have HF : Hid _ := hf
  have HN : Hid (n = L.length) := hn
  have hs' : n ≤ 4096 := by omega
  clear h hf hn hs
  have hq := eqz69
  have hq2 := eqc69
  go_enter Try.func38, Try.ntmps38
  go_wp2
  have hB1 : Below w.heap.size w (w.alloc (.cells #[.int .i64 0, .int .i64 0, .bool false] 69)) := (Below.refl _ _).alloc (Nat.le_refl _) _
  have hz1 := new3 w (.int .i64 0) (.int .i64 0) (.bool false) 69
  have hl1 : w.heap.size < (w.alloc (.cells #[.int .i64 0, .int .i64 0, .bool false] 69)).heap.size := by simp
  generalize w.alloc (.cells #[.int .i64 0, .int .i64 0, .bool false] 69) = W1 at hB1 hz1 hl1 ⊢
  have HZ : Hid _ := hz1
  clear hz1
  go_loopg [4] n (fun gn i wr => ∃ k : Nat, k + gn = n ∧ i = .int .i64 k ∧ (∀ i j, i < k → i ≤ j → j < n → bk L i ≠ c0 → ke L j ≠ bk L i) ∧ Below W1.heap.size W1 wr)
  case atStart => exact ⟨0, by omega, rfl, fun i j h => by omega, Below.refl _ _⟩
  case round =>
    obtain ⟨G0, hG0⟩ : ∃ G0, G0 = gk := ⟨_, rfl⟩
    subst hG0
    obtain ⟨wq, hwq⟩ : ∃ wq, wq = wr := ⟨_, rfl⟩
    subst hwq
    obtain ⟨k, hkg, rfl, hall, hbel⟩ := hrel
    have HKG : Hid (k + G0 = n) := hkg
    have hk : k ≤ n := by omega
    have hgk : k < n → 0 < G0 := by omega
    clear hkg
    have HA : Hid _ := hall
    clear hall
    have hbw : Below w.heap.size w wq := hB1.trans (hbel.mono hB1.size)
    by_cases hlt : k < n
    · obtain ⟨b, off, hx, hb, hc⟩ := HF.out (by omega)
      subst hx
      have HC : Hid _ := hc
      obtain ⟨e0, e1, e2, e3, e4, e5⟩ := hc k hlt
      have d3 := (hbw.cell (p := ⟨b, off + k * 6 + 3, none⟩) (by exact hb)).trans e3
      have d4 := (hbw.cell (p := ⟨b, off + k * 6 + 4, none⟩) (by exact hb)).trans e4
      have d5 := (hbw.cell (p := ⟨b, off + k * 6 + 5, none⟩) (by exact hb)).trans e5
      have g0 := (hbel.cell (p := ⟨w.heap.size, 0, none⟩) hl1).trans HZ.out.1
      have g1 := (hbel.cell (p := ⟨w.heap.size, 1, none⟩) hl1).trans HZ.out.2.1
      have g2 := (hbel.cell (p := ⟨w.heap.size, 2, none⟩) hl1).trans HZ.out.2.2
      clear e0 e1 e2 e3 e4 e5 hc
      by_cases hbz : bk L k = c0
      · have tz : decide (bk L k = c0) = true := decide_eq_true hbz
        have HBZ : Hid (bk L k = c0) := hbz
        clear hbz hq2
        go_wp2
        go_quiet (fail)
        go_wp2
        go_roundg (G0 - 1)
        case measure => have := hgk hlt; omega
        case rel => exact ⟨k + 1, by have := HKG.out; have := hgk hlt; omega, by go_num, fun i j h1 h2 h3 h4 => (by
            by_cases e : i = k
            · subst e; exact absurd HBZ.out h4
            · exact HA.out i j (by omega) h2 h3 h4), below_drewN hbel _⟩
      · have tz : decide (bk L k = c0) = false := decide_eq_false hbz
        clear hbz
        go_wp2
        go_quiet (fail)
        clear d3 d4 d5 g0 g1 g2 tz hq
        go_wp2
        go_loopg [5] (n - k) (fun g2 s wx => ∃ j : Nat, k ≤ j ∧ j + g2 = n ∧ s = .int .i64 j ∧ (∀ j', k ≤ j' → j' < j → ke L j' ≠ bk L k) ∧ Below W1.heap.size W1 wx)
        case atStart => exact ⟨k, by omega, by omega, rfl, fun j' h1 h2 => by omega, below_drewN hbel _⟩
        case round =>
          obtain ⟨j, hkj, hjg, rfl, hno, hbj⟩ := hrel
          have HJG : Hid _ := hjg
          have hj : j ≤ n := by omega
          have hgj : j < n → 0 < gk := by omega
          clear hjg hbel hbw
          have HNo : Hid _ := hno
          clear hno
          have hbw : Below w.heap.size w wr := hB1.trans (hbj.mono hB1.size)
          by_cases hltj : j < n
          · obtain ⟨e0, e1, e2, _, _, _⟩ := HC.out j hltj
            obtain ⟨_, _, _, e3, e4, e5⟩ := HC.out k hlt
            have d0 := (hbw.cell (p := ⟨b, off + j * 6, none⟩) (by exact hb)).trans e0
            have d1 := (hbw.cell (p := ⟨b, off + j * 6 + 1, none⟩) (by exact hb)).trans e1
            have d2 := (hbw.cell (p := ⟨b, off + j * 6 + 2, none⟩) (by exact hb)).trans e2
            have d3 := (hbw.cell (p := ⟨b, off + k * 6 + 3, none⟩) (by exact hb)).trans e3
            have d4 := (hbw.cell (p := ⟨b, off + k * 6 + 4, none⟩) (by exact hb)).trans e4
            have d5 := (hbw.cell (p := ⟨b, off + k * 6 + 5, none⟩) (by exact hb)).trans e5
            clear e0 e1 e2 e3 e4 e5
            by_cases he : ke L j = bk L k
            · have te : decide (ke L j = bk L k) = true := decide_eq_true he
              clear he
              go_wp2
              go_quiet (fail)
              go_wp2
              go_ret
              exact ⟨false, rfl, (fun h => by cases h), below_drewN hbw _⟩
            · have te : decide (ke L j = bk L k) = false := decide_eq_false he
              have HE : Hid _ := he
              clear he
              go_wp2
              go_quiet (fail)
              go_wp2
              go_roundg (gk - 1)
              case measure => have := hgj hltj; omega
              case rel => exact ⟨j + 1, by omega, by have := HJG.out; have := hgj hltj; omega, by go_num, fun j' h1 h2 => (by
                  by_cases e : j' = j
                  · subst e; exact HE.out
                  · exact HNo.out j' h1 (by omega)), below_drewN hbj _⟩
          · go_wp2
            go_roundg (G0 - 1)
            case measure => have := hgk hlt; omega
            case rel => exact ⟨k + 1, by have := HKG.out; have := hgk hlt; omega, by go_num, fun i j' h1 h2 h3 h4 => (by
                by_cases e : i = k
                · subst e; exact HNo.out j' h2 (by omega)
                · exact HA.out i j' (by omega) h2 h3 h4), hbj⟩
    · go_wp2
      go_ret
      exact ⟨true, rfl, fun _ i j h1 h2 h3 => HA.out i j (by rw [← HN.out] at h2; omega) h1 (by rw [HN.out]; exact h2) h3, hbw⟩

theorem backTo_at {L : List Edge} {k : Nat} {c : Cel} (h : ke L k = c) : backTo L (k + 1) c = some (bk L k) := by rw [backTo, if_pos h]
theorem backTo_past {L : List Edge} {k : Nat} {c : Cel} (h : ¬ ke L k = c) : backTo L (k + 1) c = backTo L k c := by rw [backTo, if_neg h]

theorem results_cell_mid {fn : Func} {p u : Tmp} {ty : TypeId} (h : fn.results = #[.cell p ty, .tmp u]) (tmps : Array Value) (w : World) (b o : Nat) (cs : List Value) (d : TypeDesc)
    (hp : tmps.getD p undef = .pointer (some ⟨b, o, none⟩)) (hc : w.rangeAt b o cs) (hu : Try.prog.underlying ty = some d) (hd : d.isRow = true) (hi : (Try.prog.info? ty).map (·.size) = some cs.length) :
    (results fn tmps).run Try.prog w = .ok (.tuple #[.agg cs.toArray, tmps.getD u undef]) w := by
  rw [results_cell_tmp h, hp]
  simp only [asAddr, Sem.run_pure, Result.andThen_ok]
  rw [run_loadVar_mid w b o ty cs d hc hu hd hi]
  rfl

theorem blk3 {w : World} {g : Nat} {x y z : Value} {t : TypeId} (h : w.heap[g]? = some (.cells #[x, y, z] t (0, 0))) :
    w.there g 0 3 ∧ w.cell? ⟨g, 0, none⟩ = some x ∧ w.cell? ⟨g, 1, none⟩ = some y ∧ w.cell? ⟨g, 2, none⟩ = some z ∧ w.frozen? ⟨g, 0, none⟩ = false ∧ w.frozen? ⟨g, 1, none⟩ = false ∧ w.frozen? ⟨g, 2, none⟩ = false := by
  have a0 : w.cell? ⟨g, 0, none⟩ = some x := by rw [cell_of_row w g 0 _ t (0, 0) h]; rfl
  have a1 : w.cell? ⟨g, 1, none⟩ = some y := by rw [cell_of_row w g 1 _ t (0, 0) h]; rfl
  have a2 : w.cell? ⟨g, 2, none⟩ = some z := by rw [cell_of_row w g 2 _ t (0, 0) h]; rfl
  have f0 := frozen_of_row w g 0 _ t h
  have f1 := frozen_of_row w g 1 _ t h
  have f2 := frozen_of_row w g 2 _ t h
  refine ⟨fun j hj => ?_, a0, a1, a2, f0, f1, f2⟩
  rw [Nat.zero_add]
  have : j = 0 ∨ j = 1 ∨ j = 2 := by omega
  rcases this with rfl | rfl | rfl
  · exact ⟨by rw [a0]; rfl, f0⟩
  · exact ⟨by rw [a1]; rfl, f1⟩
  · exact ⟨by rw [a2]; rfl, f2⟩

set_option maxHeartbeats 1000000 in
set_option maxRecDepth 100000 in
theorem back47 {v : Value} {L : List Edge} (c : Cel) (w : World) (h : Egs w v L) (hs : L.length ≤ 4096) :
    Calls Try.prog 47 #[v, cv c] w fun e w' => e = .returned (.tuple #[cv ((back L c).getD c0), .bool (back L c).isSome]) ∧ Below w.heap.size w w' := by
  obtain ⟨a, n, cap, rfl, hn, _, hM, hf⟩ := Egs.form h
  have HF : Hid _ := hf
  have HN : Hid (n = L.length) := hn
  have hs' : n ≤ 4096 := by omega
  clear h hf hn hs
  have hq2 := eqc69
  go_enter Try.func47, Try.ntmps47
  go_wp2
  have hB1 : Below w.heap.size w ((w.alloc (.cells #[.int .i64 c.f, .int .i64 c.t, .bool c.m] 69)).alloc (.cells #[.int .i64 0, .int .i64 0, .bool false] 69)) := below_two_allocs _ _
  have hk0 : ((w.alloc (.cells #[.int .i64 c.f, .int .i64 c.t, .bool c.m] 69)).alloc (.cells #[.int .i64 0, .int .i64 0, .bool false] 69)).heap[w.heap.size]? = some (.cells #[.int .i64 c.f, .int .i64 c.t, .bool c.m] 69 (0, 0)) := by
    rw [heap_alloc_old _ _ (by simp)]; exact heap_alloc_new _ _
  have hk1 : ((w.alloc (.cells #[.int .i64 c.f, .int .i64 c.t, .bool c.m] 69)).alloc (.cells #[.int .i64 0, .int .i64 0, .bool false] 69)).heap[w.heap.size + 1]? = some (.cells #[.int .i64 0, .int .i64 0, .bool false] 69 (0, 0)) := heap_alloc2_new _ _ _
  have hl1 : w.heap.size + 1 < ((w.alloc (.cells #[.int .i64 c.f, .int .i64 c.t, .bool c.m] 69)).alloc (.cells #[.int .i64 0, .int .i64 0, .bool false] 69)).heap.size := by simp
  generalize (w.alloc (.cells #[.int .i64 c.f, .int .i64 c.t, .bool c.m] 69)).alloc (.cells #[.int .i64 0, .int .i64 0, .bool false] 69) = W1 at hB1 hk0 hk1 hl1 ⊢
  have HK0 : Hid _ := hk0
  have HK1 : Hid _ := hk1
  clear hk0 hk1
  go_loopg [6] n (fun gn i wr => gn ≤ n ∧ i = .int .i64 ((gn : Int) - 1) ∧ backTo L n c = backTo L gn c ∧ Below W1.heap.size W1 wr)
  case atStart => exact ⟨Nat.le_refl _, rfl, rfl, Below.refl _ _⟩
  case round =>
    obtain ⟨hk, rfl, hall, hbel⟩ := hrel
    have HA : Hid _ := hall
    clear hall
    have hbw : Below w.heap.size w wr := hB1.trans (hbel.mono hB1.size)
    obtain ⟨ht, p0, p1, p2, r0, r1, r2⟩ := blk3 ((hbel.block (w.heap.size + 1) hl1).trans HK1.out)
    have HT : Hid _ := ht
    clear ht
    obtain ⟨_, g0, g1, g2, _, _, _⟩ := blk3 ((hbel.block w.heap.size (by omega)).trans HK0.out)
    by_cases hlt : 0 < gk
    · obtain ⟨k, rfl⟩ : ∃ k, gk = k + 1 := ⟨gk - 1, by omega⟩
      obtain ⟨b, off, hx, hb, hc⟩ := HF.out (by omega)
      subst hx
      obtain ⟨e0, e1, e2, e3, e4, e5⟩ := hc k (by omega)
      have d0 := (hbw.cell (p := ⟨b, off + k * 6, none⟩) (by exact hb)).trans e0
      have d1 := (hbw.cell (p := ⟨b, off + k * 6 + 1, none⟩) (by exact hb)).trans e1
      have d2 := (hbw.cell (p := ⟨b, off + k * 6 + 2, none⟩) (by exact hb)).trans e2
      have d3 := (hbw.cell (p := ⟨b, off + k * 6 + 3, none⟩) (by exact hb)).trans e3
      have d4 := (hbw.cell (p := ⟨b, off + k * 6 + 4, none⟩) (by exact hb)).trans e4
      have d5 := (hbw.cell (p := ⟨b, off + k * 6 + 5, none⟩) (by exact hb)).trans e5
      clear e0 e1 e2 e3 e4 e5 hc hlt
      rw [show (((k + 1 : Nat) : Int) - 1) = (k : Int) by omega]
      by_cases he : ke L k = c
      · have te : decide (ke L k = c) = true := decide_eq_true he
        have HE : Hid (backTo L n c = some (bk L k)) := HA.out.trans (backTo_at he)
        clear he
        go_wp2
        go_quiet (fail)
        go_wp2
        try simp only [Exit.inBlock, Exit.then]
        refine bodyPost_ret (v := .tuple #[cv (bk L k), .bool true]) ?_ rfl ⟨?_, ?_⟩
        · exact results_cell_mid (p := 4) (u := 5) (ty := 69) rfl _ _ (w.heap.size + 1) 0 (cl (bk L k)) _ rfl (World.rangeAt_setCells_same (wr.drewN nq) (w.heap.size + 1) 0 (cl (bk L k)) HT.out) Try.underlying69 rfl size69
        · unfold back; rw [← HN.out, HE.out]; rfl
        · exact below_wsets (by omega) (cl (bk L k)) 0 (below_drewN hbw _)
      · have te : decide (ke L k = c) = false := decide_eq_false he
        have HE : Hid (backTo L n c = backTo L k c) := HA.out.trans (backTo_past he)
        clear he
        go_wp2
        go_quiet (fail)
        go_wp2
        go_roundg k
        case measure => omega
        case rel => exact ⟨by omega, by go_num, HE.out, below_drewN hbel _⟩
    · have hgk0 : gk = 0 := by omega
      subst hgk0
      clear hlt
      go_wp2
      try simp only [Exit.inBlock, Exit.then]
      refine bodyPost_ret (v := .tuple #[cv c0, .bool false]) ?_ rfl ⟨?_, ?_⟩
      · exact results_cell_mid (p := 4) (u := 5) (ty := 69) rfl _ _ (w.heap.size + 1) 0 (cl c0) _ rfl (World.rangeAt_setCells_same wr (w.heap.size + 1) 0 (cl c0) HT.out) Try.underlying69 rfl size69
      · unfold back; rw [← HN.out, HA.out]; rfl
      · exact below_wsets (by omega) (cl c0) 0 hbw

set_option maxHeartbeats 1000000 in
set_option maxRecDepth 100000 in
theorem reached49 {v : Value} {L : List Edge} (c : Cel) (w : World) (h : Egs w v L) (hs : L.length ≤ 4096) :
    Calls Try.prog 49 #[v, cv c] w fun e w' => e = .returned (.bool (back L c).isSome) ∧ Below w.heap.size w w' := by
  have HE : Hid (Egs w v L) := h
  clear h
  go_enter Try.func49, Try.ntmps49
  go_wp2_with fail
  have hB : Below w.heap.size w (w.alloc (.cells #[.int .i64 c.f, .int .i64 c.t, .bool c.m] 69)) := (Below.refl _ _).alloc (Nat.le_refl _) _
  refine (back47 c _ (HE.out.below hB) hs).mono ?_
  rintro e w1 ⟨rfl, b1⟩
  have hb1 := hB.trans (b1.mono hB.size)
  clear b1 hB
  generalize (back L c).getD c0 = x
  go_wp2
  go_ret
  exact ⟨rfl, hb1.alloc hb1.size _⟩

end Go.Proofs.Qxb6600021a
