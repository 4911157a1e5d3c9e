/-
  zzBytes (37); ZZPath (41): the walk.
-/
import Derived.Test.Qxb6600021aF6
namespace Go.Proofs.Qxb6600021a
open Go.RowKit
set_option linter.unusedVariables false

set_option maxHeartbeats 400000 in
theorem zzb37 (a b : Option Addr) (n m ca cb : Nat) (fr tt : Int) (o : Bool) (w : World) (hn : n ≤ maxLen) (hm : m ≤ maxLen) :
    Calls Try.prog 37 #[.slice a n ca, .slice b m cb, .int .i64 fr, .int .i64 tt, .bool o] w fun e w' => e = .returned (.bool (decide (n + m ≤ 1048576))) ∧ w' = w := by
  unfold maxLen at hn hm
  by_cases h1 : n ≤ 1048576
  · by_cases h2 : m ≤ 1048576
    · by_cases h3 : n + m ≤ 1048576
      · go_enter Try.func37, Try.ntmps37
        go_wp2
        go_ret
        exact ⟨ret_bool (by simp; omega), rfl⟩
      · go_enter Try.func37, Try.ntmps37
        go_wp2
        go_ret
        exact ⟨ret_bool (by simp; omega), rfl⟩
    · go_enter Try.func37, Try.ntmps37
      go_wp2
      go_ret
      exact ⟨ret_bool (by simp; omega), rfl⟩
  · go_enter Try.func37, Try.ntmps37
    go_wp2
    go_ret
    exact ⟨ret_bool (by simp; omega), rfl⟩

theorem upd_back (L : List Edge) (k : Nat) : upd (fun c => (backTo L k c).map cv) (ke L k) (cv (bk L k)) = fun c => (backTo L (k + 1) c).map cv := by
  funext x
  unfold upd
  rw [backTo]
  by_cases e : x = ke L k
  · subst e
    rw [if_pos rfl, if_pos rfl]; rfl
  · rw [if_neg e, if_neg (fun h => e h.symm)]

/-- The two maps and their box, as ZZPath fills them. -/
structure Zp (L : List Edge) (w wr : World) (k j : Nat) (g : Cel → Option Value) : Prop where
  bel : Below w.heap.size w wr
  mb : MapF wr w.heap.size k (fun c => (backTo L k c).map cv)
  mc : MapF wr (w.heap.size + 1) j g
  gok : ∀ c v, g c = some v → ChOk wr v
  box : wr.heap[w.heap.size + 2]? = some (.cells #[.map (some w.heap.size), .map (some (w.heap.size + 1))] 97 (0, 0))
  lt : w.heap.size + 2 < wr.heap.size

theorem Zp.call {L : List Edge} {w wr w8 : World} {k j : Nat} {g : Cel → Option Value} (h : Zp L w wr k j g) (hb : Below wr.heap.size wr w8) : Zp L w w8 k j g :=
  ⟨h.bel.trans (hb.mono h.bel.size), h.mb.below hb, h.mc.below hb, fun c v e => (h.gok c v e).below hb (Nat.le_refl _), (hb.block _ h.lt).trans h.box, Nat.lt_of_lt_of_le h.lt hb.size⟩
theorem Zp.drew {L : List Edge} {w wr : World} {k j : Nat} {g : Cel → Option Value} (h : Zp L w wr k j g) : Zp L w wr.drew k j g := h.call ((Below.refl _ _).drew)
theorem Zp.new {L : List Edge} {w wr : World} {k j : Nat} {g : Cel → Option Value} (h : Zp L w wr k j g) (o : Obj) : Zp L w (wr.alloc o) k j g := h.call ((Below.refl _ _).alloc (Nat.le_refl _) o)
theorem Zp.z0 {L : List Edge} {w wr : World} {k j : Nat} {g : Cel → Option Value} (h : Zp L w wr k j g) : wr.cell? ⟨w.heap.size + 2, 0, none⟩ = some (.map (some w.heap.size)) := by
  rw [cell_of_row wr (w.heap.size + 2) 0 _ 97 (0, 0) h.box]; rfl
theorem Zp.z1 {L : List Edge} {w wr : World} {k j : Nat} {g : Cel → Option Value} (h : Zp L w wr k j g) : wr.cell? ⟨w.heap.size + 2, 1, none⟩ = some (.map (some (w.heap.size + 1))) := by
  rw [cell_of_row wr (w.heap.size + 2) 1 _ 97 (0, 0) h.box]; rfl

theorem Zp.put1 {L : List Edge} {w wr : World} {k j : Nat} {g : Cel → Option Value} (h : Zp L w wr k j g) (hk : k < 1048576) (hc : (ke L k).ok) :
    ∃ w9, (Instr.mapUpdate 94 (.map (some w.heap.size)) (cv (ke L k)) (cv (bk L k))).run Try.prog wr = .ok () w9 ∧ Zp L w w9 (k + 1) j g ∧ wr.grownBy w9 (some w.heap.size) := by
  obtain ⟨w9, hrun, hm, hg⟩ := h.mb.put Try.underlying94 (by unfold maxLen; omega) hc (cv (bk L k))
  rw [upd_back] at hm
  have hlt := h.lt
  have hb : Below w.heap.size w w9 := h.bel.grown hg h.bel.size (fun i e => by cases e; exact Nat.le_refl _)
  refine ⟨w9, hrun, ⟨hb, hm, h.mc.block (hg.block _ (by omega) (by intro e; injection e with e; omega)), fun c v e => ?_, (hg.block _ h.lt (by intro e; injection e with e; omega)).trans h.box, Nat.lt_of_lt_of_le h.lt hg.size⟩, hg⟩
  rcases h.gok c v e with e1 | ⟨b, x, e1, e2, e3⟩
  · exact .inl e1
  · refine .inr ⟨b, x, e1, Nat.lt_of_lt_of_le e2 hg.size, hg.cell e3 ?_⟩
    intro e4
    simp at e4
    subst e4
    obtain ⟨D, ⟨es, clock, hbk, _⟩, _⟩ := h.mb
    simp [World.cell?, hbk] at e3

theorem Zp.put2 {L : List Edge} {w wr : World} {k j : Nat} {g : Cel → Option Value} (h : Zp L w wr k j g) (hj : j < 1048576) {c : Cel} (hc : c.ok) {v : Value} (hv : ChOk wr v) :
    ∃ w9 g', (Instr.mapUpdate 95 (.map (some (w.heap.size + 1))) (cv c) v).run Try.prog wr = .ok () w9 ∧ Zp L w w9 k (j + 1) g' ∧ wr.grownBy w9 (some (w.heap.size + 1)) := by
  obtain ⟨w9, hrun, hm, hg⟩ := h.mc.put Try.underlying95 (by unfold maxLen; omega) hc v
  have hlt := h.lt
  have hb : Below w.heap.size w w9 := h.bel.grown hg h.bel.size (fun i e => by cases e; exact Nat.le_succ _)
  have hold : ∀ u, ChOk wr u → ChOk w9 u := by
    intro u hu
    rcases hu with e1 | ⟨b, x, e1, e2, e3⟩
    · exact .inl e1
    · refine .inr ⟨b, x, e1, Nat.lt_of_lt_of_le e2 hg.size, hg.cell e3 ?_⟩
      intro e4
      simp at e4
      subst e4
      obtain ⟨D, ⟨es, clock, hbk, _⟩, _⟩ := h.mc
      simp [World.cell?, hbk] at e3
  refine ⟨w9, upd g c v, hrun, ⟨hb, h.mb.block (hg.block _ (by omega) (by intro e; injection e with e; omega)), hm, fun c' v' e => ?_, (hg.block _ h.lt (by intro e; injection e with e; omega)).trans h.box, Nat.lt_of_lt_of_le h.lt hg.size⟩, hg⟩
  unfold upd at e
  by_cases e1 : c' = c
  · rw [if_pos e1] at e
    injection e with e
    subst e
    exact hold _ hv
  · rw [if_neg e1] at e
    exact hold _ (h.gok c' v' e)

/-- A change that bears the tag x alone. -/
theorem ch_new {W : World} {N : Nat} {x : Int} (h : W.heap[N]? = some (.cells #[.string ⟨#[]⟩, .int .i64 x, .int .i64 0, .int .i64 0, .int .i64 0, .slice none 0 0] 110 (0, 0))) : ChOk W (.slice (some ⟨N, 0, none⟩) 1 1) :=
  .inr ⟨N, x, rfl, (Array.getElem?_eq_some_iff.1 h).1, by rw [cell_of_row W N 1 _ 110 (0, 0) h]; rfl⟩

theorem Zp.putA {L : List Edge} {w w8 : World} {k j : Nat} {g : Cel → Option Value} (h : Zp L w w8 k j g) (hj : j < 1048576) {c : Cel} (hc : c.ok) (x : Int) :
    ∃ w9 g', (Instr.mapUpdate 95 (.map (some (w.heap.size + 1))) (cv c) (.slice (some ⟨w8.heap.size, 0, none⟩) 1 1)).run Try.prog (w8.alloc (.cells #[.string ⟨#[]⟩, .int .i64 x, .int .i64 0, .int .i64 0, .int .i64 0, .slice none 0 0] 110)) = .ok () w9 ∧ Zp L w w9 k (j + 1) g' ∧ (w8.alloc (.cells #[.string ⟨#[]⟩, .int .i64 x, .int .i64 0, .int .i64 0, .int .i64 0, .slice none 0 0] 110)).grownBy w9 (some (w.heap.size + 1)) :=
  (h.new _).put2 hj hc (ch_new (heap_alloc_new _ _))

theorem Zp.putB {L : List Edge} {w X w8 : World} {k j N : Nat} {g : Cel → Option Value} {x : Int} (h : Zp L w X k j g) (hN : X.heap[N]? = some (.cells #[.string ⟨#[]⟩, .int .i64 x, .int .i64 0, .int .i64 0, .int .i64 0, .slice none 0 0] 110 (0, 0))) (b8 : Below X.heap.size X w8) (hj : j < 1048576) {c : Cel} (hc : c.ok) :
    ∃ w9 g', (Instr.mapUpdate 95 (.map (some (w.heap.size + 1))) (cv c) (.slice (some ⟨N, 0, none⟩) 1 1)).run Try.prog w8 = .ok () w9 ∧ Zp L w w9 k (j + 1) g' ∧ w8.grownBy w9 (some (w.heap.size + 1)) :=
  (h.call b8).put2 hj hc (ch_new ((b8.block N (Array.getElem?_eq_some_iff.1 hN).1).trans hN))

theorem Sq.call {wR W W' : World} {row : Option Nat} (h : Sq wR row W) (hb : Below W.heap.size W W') : Sq wR row W' :=
  ⟨fun k h1 h2 => (hb.block k (Nat.lt_of_lt_of_le h1 h.2)).trans (h.1 k h1 h2), Nat.le_trans h.2 hb.size⟩
theorem Sq.new {wR W : World} {row : Option Nat} (h : Sq wR row W) (o : Obj) : Sq wR row (W.alloc o) := h.call ((Below.refl _ _).alloc (Nat.le_refl _) o)
theorem Sq.upd {wR W W' : World} {row : Option Nat} (h : Sq wR row W) (hg : W.grownBy W' row) : Sq wR row W' :=
  ⟨fun k h1 h2 => (hg.block k (Nat.lt_of_lt_of_le h1 h.2) h2).trans (h.1 k h1 h2), Nat.le_trans h.2 hg.size⟩
theorem Sq.cell {wR W : World} {row : Option Nat} (h : Sq wR row W) {p : Addr} (hp : p.block < wR.heap.size) (hne : some p.block ≠ row) : W.cell? p = wR.cell? p := World.cell?_of_block (h.1 p.block hp hne)

theorem Zp.start (L : List Edge) (w : World) : Zp L w (((w.alloc (.map #[] 0)).alloc (.map #[] 0)).alloc (.cells #[.map (some w.heap.size), .map (some (w.heap.size + 1))] 97)) 0 0 (fun _ => none) := by
  have s1 : (w.alloc (.map #[] 0)).heap.size = w.heap.size + 1 := by simp
  have s2 : ((w.alloc (.map #[] 0)).alloc (.map #[] 0)).heap.size = w.heap.size + 2 := by simp
  have m1 := MapF.made w
  have m2 := MapF.made (w.alloc (.map #[] 0))
  rw [s1] at m2
  refine ⟨(((Below.refl _ _).alloc (Nat.le_refl _) _).alloc (by omega) _).alloc (by omega) _, ?_, ?_, fun c v e => (by cases e), ?_, by simp⟩
  · exact (m1.below ((Below.refl _ _).alloc (Nat.le_refl _) _)).below ((Below.refl _ _).alloc (Nat.le_refl _) _)
  · exact m2.below ((Below.refl _ _).alloc (Nat.le_refl _) _)
  · rw [← s2]; exact heap_alloc_new _ _

abbrev z5 : Value := .agg #[.int .i64 0, .int .i64 0, .bool false, .int .i64 0, .int .i64 0]
theorem info75 : (Try.prog.info? 75).map (fun i => (i.zero, i.size, i.bytes)) = some (some z5, 5, 40) := by kernel_rfl
theorem q112 (w : World) (a : Option Addr) (n c n' c' : Nat) : (binOp .eql 112 (.slice a n c) (.slice none n' c')).run Try.prog w = .ok (.bool a.isNone) w := Lib.run_eql_slice_nil w _ _ a n c n' c' Try.underlying112

theorem zbel {w wr : World} (h : Below w.heap.size w wr) (A C : Obj) (vs : List Value) (i : Nat) : Below w.heap.size w (((wr.setCells w.heap.size i vs).alloc A).alloc C).drew :=
  (((below_wsets (Nat.le_refl _) vs i h).alloc (below_wsets (Nat.le_refl _) vs i h).size A).alloc ((below_wsets (Nat.le_refl _) vs i h).alloc (below_wsets (Nat.le_refl _) vs i h).size A).size C).drew
theorem zown {wr : World} {B n cap : Nat} {cs : List Value} (h : wr.ownsRow B 75 5 (.slice (some ⟨B, 0, none⟩) n cap) n cs) (A C : Obj) (vs : List Value) (i : Nat) : (((wr.setCells B i vs).alloc A).alloc C).drew.ownsRow B 75 5 (.slice (some ⟨B, 0, none⟩) n cap) n (lsets cs i vs) :=
  own_drew (((own_wsets vs i h).alloc A).alloc C)
theorem zcell {wr : World} {B n cap q : Nat} {cs : List Value} {c : Cel} {l t : Int} (h : wr.ownsRow B 75 5 (.slice (some ⟨B, 0, none⟩) n cap) n cs) (hq : q < n) {i : Nat} (hi : i < 3) :
    (lsets cs (q * 5) [.int .i64 c.f, .int .i64 c.t, .bool c.m, .int .i64 l, .int .i64 t])[q * 5 + i]? = (cl c)[i]? := by
  have := h.1
  rw [lsets_get, if_pos ⟨by omega, by simp; omega, by omega⟩, show q * 5 + i - q * 5 = i by omega]
  match i, hi with
  | 0, _ => rfl
  | 1, _ => rfl
  | 2, _ => rfl

/-- What ZZPath answers. -/
def ZPost (L : List Edge) (F T1 tt : Int) (pre : Bool) (w' : World) (v : Value) : Prop :=
  (pEnd L F T1 tt pre = none ∧ v = .tuple #[.slice none 0 0, .bool true]) ∨
  ∃ c gm n cap, pEnd L F T1 tt pre = some c ∧ v = .tuple #[.slice (some ⟨gm, 0, none⟩) (n + 1) cap, .bool false] ∧ n + 1 ≤ 4098 ∧ gm < w'.heap.size ∧
    w'.cell? ⟨gm, n * 5, none⟩ = some (.int .i64 c.f) ∧ w'.cell? ⟨gm, n * 5 + 1, none⟩ = some (.int .i64 c.t) ∧ w'.cell? ⟨gm, n * 5 + 2, none⟩ = some (.bool c.m)

set_option maxHeartbeats 4000000 in
set_option maxRecDepth 100000 in
theorem path41 {v0 v1 : Value} {L : List Edge} {M : List Mark} (fr tt F T1 : Int) (pre : Bool) (w : World) (g0 : Egs w v0 L) (g1 : Mks w v1 M) (hCh : Chains L) (hOk : OkL L) (hMk : ∀ i, (ma M i).ok) (hs : L.length ≤ 4096) (hsM : M.length ≤ 4096)
    (hF : wrap64 (fr - 1) = F) (hT : wrap64 (tt - 1) = T1) (htt : -9223372036854775808 ≤ tt ∧ tt ≤ 65536) :
    Calls Try.prog 41 #[v0, v1, .int .i64 fr, .int .i64 tt, .bool pre] w fun e w' => ∃ v, e = .returned v ∧ Below w.heap.size w w' ∧ ZPost L F T1 tt pre w' v := by
  obtain ⟨a0, n0, k0, rfl, hn0, _, hM0, hf0⟩ := Egs.form g0
  obtain ⟨a1, n1, k1, rfl, hn1, _, hM1, hf1⟩ := Mks.form g1
  have HF0 := hide hf0
  have HF1 := hide hf1
  have HN0 := hide hn0
  have HCh := hide hCh
  have HOk := hide hOk
  have HMk := hide hMk
  have HF := hide hF
  have HT := hide hT
  have hb0 : n0 ≤ 4096 := by omega
  have hb1 : n1 ≤ 4096 := by omega
  have hmm := @run_makeMap Try.prog
  clear hf0 hf1 hn0 hn1 hCh hOk hMk g0 g1 hs hsM hM0 hM1 hF hT
  go_enter Try.func41, Try.ntmps41
  go_wp2
  clear hmm
  go_loopg [13] n0 (fun gn i wr => ∃ k : Nat, k + gn = n0 ∧ i = .int .i64 k ∧ Zp L w wr k 0 (fun _ => none))
  case atStart => exact ⟨0, by omega, rfl, Zp.start L w⟩
  case round =>
    obtain ⟨k, hkg, rfl, hzp⟩ := hrel
    have HKG := hide hkg
    have hk : k ≤ n0 := by omega
    have hgk : k < n0 → 0 < gk := by omega
    clear hkg
    by_cases hlt : k < n0
    · have hbel := hzp.bel
      obtain ⟨b, off, hx, hb, hc⟩ := HF0.out (by omega)
      subst hx
      obtain ⟨e0, e1, e2, e3, e4, e5⟩ := hc k hlt
      have d0 := (hbel.cell (p := ⟨b, off + k * 6, none⟩) (by exact hb)).trans e0
      have d1 := (hbel.cell (p := ⟨b, off + k * 6 + 1, none⟩) (by exact hb)).trans e1
      have d2 := (hbel.cell (p := ⟨b, off + k * 6 + 2, none⟩) (by exact hb)).trans e2
      have d3 := (hbel.cell (p := ⟨b, off + k * 6 + 3, none⟩) (by exact hb)).trans e3
      have d4 := (hbel.cell (p := ⟨b, off + k * 6 + 4, none⟩) (by exact hb)).trans e4
      have d5 := (hbel.cell (p := ⟨b, off + k * 6 + 5, none⟩) (by exact hb)).trans e5
      have hbw : b < wr.heap.size := Nat.lt_of_lt_of_le hb hbel.size
      have y0 := hzp.z0
      have hko : (ke L k).ok := (HOk.out k).1
      have HKo := hide hko
      have hk1 : k < 1048576 := by omega
      have hnb : (some b : Option Nat) ≠ some w.heap.size := fun e => by injection e with e; omega
      have hzl := hzp.lt
      have HS : Hid (∀ W, Sq wr (some w.heap.size) W → Sq wr (some w.heap.size) W ∧ W.cell? ⟨w.heap.size + 2, 0, none⟩ = some (.map (some w.heap.size)) ∧ W.cell? ⟨b, off + k * 6, none⟩ = some (.int .i64 (ke L k).f) ∧ W.cell? ⟨b, off + k * 6 + 1, none⟩ = some (.int .i64 (ke L k).t) ∧ W.cell? ⟨b, off + k * 6 + 2, none⟩ = some (.bool (ke L k).m) ∧ W.cell? ⟨b, off + k * 6 + 3, none⟩ = some (.int .i64 (bk L k).f) ∧ W.cell? ⟨b, off + k * 6 + 4, none⟩ = some (.int .i64 (bk L k).t) ∧ W.cell? ⟨b, off + k * 6 + 5, none⟩ = some (.bool (bk L k).m)) := by
        intro W hW
        exact ⟨hW, (hW.cell (p := ⟨w.heap.size + 2, 0, none⟩) hzl (fun e => by injection e with e; change w.heap.size + 2 = _ at e; omega)).trans y0, (hW.cell (p := ⟨b, off + k * 6, none⟩) hbw hnb).trans d0, (hW.cell (p := ⟨b, off + k * 6 + 1, none⟩) hbw hnb).trans d1, (hW.cell (p := ⟨b, off + k * 6 + 2, none⟩) hbw hnb).trans d2, (hW.cell (p := ⟨b, off + k * 6 + 3, none⟩) hbw hnb).trans d3, (hW.cell (p := ⟨b, off + k * 6 + 4, none⟩) hbw hnb).trans d4, (hW.cell (p := ⟨b, off + k * 6 + 5, none⟩) hbw hnb).trans d5⟩
      have hsq := Sq.drew wr (some w.heap.size)
      have HZ := hide hzp.drew
      clear hc e0 e1 e2 e3 e4 e5 hbel hko hzp hnb
      go_upto_region 5 with fail
      go_region_held2 (fun W => Sq wr (some w.heap.size) W ∧ W.cell? ⟨w.heap.size + 2, 0, none⟩ = some (.map (some w.heap.size)) ∧ W.cell? ⟨b, off + k * 6, none⟩ = some (.int .i64 (ke L k).f) ∧ W.cell? ⟨b, off + k * 6 + 1, none⟩ = some (.int .i64 (ke L k).t) ∧ W.cell? ⟨b, off + k * 6 + 2, none⟩ = some (.bool (ke L k).m) ∧ W.cell? ⟨b, off + k * 6 + 3, none⟩ = some (.int .i64 (bk L k).f) ∧ W.cell? ⟨b, off + k * 6 + 4, none⟩ = some (.int .i64 (bk L k).t) ∧ W.cell? ⟨b, off + k * 6 + 5, none⟩ = some (.bool (bk L k).m)) (first | exact HS.out _ (hsq.upd hg9) | exact HS.out _ hsq) ((go_at_call 56; refine Calls.mono (cel56 _ _) ?_; rintro e w8 ⟨rfl, b8⟩; replace hsq := hsq.call b8; replace HZ := hide (HZ.out.call b8); (try clear hup hz9 hg9); obtain ⟨w9, hup, hz9, hg9⟩ := HZ.out.put1 hk1 HKo.out))
      all_goals
        go_wp2_with fail
        go_roundg (gk - 1)
        case measure => have := hgk hlt; omega
        case rel => exact ⟨k + 1, by have := HKG.out; have := hgk hlt; omega, by go_num, hz9⟩
    · have hkn : k = n0 := by omega
      subst hkn
      obtain ⟨wX, hwX⟩ : ∃ W, W = wr := ⟨_, rfl⟩
      subst hwX
      have HZp := hide hzp
      clear hzp hgk HKG hk hlt
      go_wp2
      go_loopg [14] n1 (fun gn i wr => ∃ (j : Nat) (g : Cel → Option Value), j + gn = n1 ∧ i = .int .i64 j ∧ Zp L w wr k j g)
      case atStart => exact ⟨0, _, by omega, rfl, HZp.out⟩
      case round =>
        obtain ⟨j, g, hjg, rfl, hzp⟩ := hrel
        have HJG := hide hjg
        have hj : j ≤ n1 := by omega
        have hgj : j < n1 → 0 < gk := by omega
        clear hjg
        by_cases hlt : j < n1
        · have hbel := hzp.bel
          obtain ⟨b, off, hx, hb, hc⟩ := HF1.out (by omega)
          subst hx
          obtain ⟨e0, e1, e2, e3⟩ := hc j hlt
          have d0 := (hbel.cell (p := ⟨b, off + j * 4, none⟩) (by exact hb)).trans e0
          have d1 := (hbel.cell (p := ⟨b, off + j * 4 + 1, none⟩) (by exact hb)).trans e1
          have d2 := (hbel.cell (p := ⟨b, off + j * 4 + 2, none⟩) (by exact hb)).trans e2
          have d3 := (hbel.cell (p := ⟨b, off + j * 4 + 3, none⟩) (by exact hb)).trans e3
          have hbw : b < wr.heap.size := Nat.lt_of_lt_of_le hb hbel.size
          have y1 := hzp.z1
          have HMo := hide (HMk.out j)
          have hj1 : j < 1048576 := by omega
          have hzl := hzp.lt
          have hnb : (some b : Option Nat) ≠ some (w.heap.size + 1) := fun e => by injection e with e; omega
          have HS : Hid (∀ W, Sq wr (some (w.heap.size + 1)) W → Sq wr (some (w.heap.size + 1)) W ∧ W.cell? ⟨w.heap.size + 2, 1, none⟩ = some (.map (some (w.heap.size + 1))) ∧ W.cell? ⟨b, off + j * 4, none⟩ = some (.int .i64 (ma M j).f) ∧ W.cell? ⟨b, off + j * 4 + 1, none⟩ = some (.int .i64 (ma M j).t) ∧ W.cell? ⟨b, off + j * 4 + 2, none⟩ = some (.bool (ma M j).m) ∧ W.cell? ⟨b, off + j * 4 + 3, none⟩ = some (.int .i64 (mt M j))) := by
            intro W hW
            exact ⟨hW, (hW.cell (p := ⟨w.heap.size + 2, 1, none⟩) hzl (fun e => by injection e with e; change w.heap.size + 2 = _ at e; omega)).trans y1, (hW.cell (p := ⟨b, off + j * 4, none⟩) hbw hnb).trans d0, (hW.cell (p := ⟨b, off + j * 4 + 1, none⟩) hbw hnb).trans d1, (hW.cell (p := ⟨b, off + j * 4 + 2, none⟩) hbw hnb).trans d2, (hW.cell (p := ⟨b, off + j * 4 + 3, none⟩) hbw hnb).trans d3⟩
          have hsq := Sq.drew wr (some (w.heap.size + 1))
          have HZ := hide hzp.drew
          clear hc e0 e1 e2 e3 hbel hzp hnb
          go_upto_region 9 with fail
          go_region_held2 (fun W => Sq wr (some (w.heap.size + 1)) W ∧ W.cell? ⟨w.heap.size + 2, 1, none⟩ = some (.map (some (w.heap.size + 1))) ∧ W.cell? ⟨b, off + j * 4, none⟩ = some (.int .i64 (ma M j).f) ∧ W.cell? ⟨b, off + j * 4 + 1, none⟩ = some (.int .i64 (ma M j).t) ∧ W.cell? ⟨b, off + j * 4 + 2, none⟩ = some (.bool (ma M j).m) ∧ W.cell? ⟨b, off + j * 4 + 3, none⟩ = some (.int .i64 (mt M j))) (first | exact HS.out _ (hsq8.upd hg9) | exact HS.out _ ((hsq8.new _).upd hg9) | exact HS.out _ hsq8 | exact HS.out _ (hsq8.new _) | exact HS.out _ hsq | exact HS.out _ (hsq.new _)) ((go_at_call 56; refine Calls.mono (cel56 _ _) ?_; rintro e w8 ⟨rfl, b8⟩; (first | (have hsq8 := hsq.call b8; obtain ⟨w9, g9, hup, hz9, hg9⟩ := (HZ.out.call b8).putA hj1 HMo.out (mt M j)) | (have hsq8 := (hsq.new _).call b8; obtain ⟨w9, g9, hup, hz9, hg9⟩ := (HZ.out.new _).putB (N := wr.heap.size) (heap_alloc_new wr _) b8 hj1 HMo.out))))
          all_goals
            go_wp2_with fail
            go_roundg (gk - 1)
            case measure => have := hgj hlt; omega
            case rel => exact ⟨j + 1, _, by have := HJG.out; have := hgj hlt; omega, by go_num, hz9⟩
        · obtain ⟨wY, hwY⟩ : ∃ W, W = wr := ⟨_, rfl⟩
          subst hwY
          have y0 := hzp.z0
          have y1 := hzp.z1
          have hBF : (fun c => (backTo L k c).map cv) = BF L := by
            funext c
            unfold BF back
            rw [HN0.out]
          have hmb := hzp.mb
          rw [hBF] at hmb
          have P57 := path57 (L := L) w.heap.size (w.heap.size + 1) k j g fr tt F T1 pre wY hmb hzp.mc hzp.gok HCh.out HOk.out (by rw [← HN0.out]; exact hb0) HF.out HT.out htt
          have hbel := hzp.bel
          clear hmb hBF hzp hgj HJG
          go_wp2_with fail
          refine P57.mono ?_
          rintro e w5 ⟨v, rfl, b5, hpost⟩
          have B5 := hbel.trans (b5.mono hbel.size)
          have hq := q112
          clear P57
          rcases hpost with ⟨hpe, rfl⟩ | ⟨c, ls, gb, cap, hpe, rfl, hpos, hl98, hlast, hrw, hchs⟩
          · have HPe := hide hpe
            clear hpe
            go_wp2
            go_ret2
            exact ⟨_, rfl, B5, .inl ⟨HPe.out, rfl⟩⟩
          · have HPe := hide hpe
            have HLast := hide hlast
            have HChs := hide hchs
            obtain ⟨_, _, _, hv, _, _, _, hf5⟩ := Rw.form lc_length d0 hrw
            cases hv
            obtain ⟨n, hn⟩ : ∃ n, n = ls.length := ⟨_, rfl⟩
            rw [← hn] at hpos hl98 hf5
            rw [← hn]
            have HNL := hide hn
            have HF5 := hide hf5
            obtain ⟨i0, hi0, hz0, hz1, hz2⟩ := info_parts info75
            clear hpe hlast hchs hrw hn hf5
            go_wp2_with (at_make; refine wpList_make_full _ rfl _ _ 61 rfl w5.heap.size 75 i0 z5 5 Try.underlying61 hi0 hz0 hz1 _ _ _ _ n rfl rfl rfl rfl ?b2 ?b3 (Nat.le_refl _) ?_)
            case b2 => rw [hz2]; omega
            case b3 => unfold maxLen; omega
            intro w6 hown6 hgrow6
            have HB6 := hide ((Below.refl _ _).grown hgrow6 (Nat.le_refl _) (fun k h => by cases h) : Below w5.heap.size w5 w6)
            have HO6 := hide hown6
            clear hq hi0 hz0 hz1 hz2 hown6 hgrow6
            go_wp2
            go_loopg [17] n (fun gn si wr => ∃ (q : Nat) (cs : List Value), q + gn = n ∧ si = .int .i64 q ∧ Below w5.heap.size w5 wr ∧ wr.ownsRow w5.heap.size 75 5 (.slice (some ⟨w5.heap.size, 0, none⟩) n n) n cs ∧ (0 < q → ∀ i, i < 3 → cs[(q - 1) * 5 + i]? = (cl (ls.getD (q - 1) d0).1)[i]?))
            case atStart => exact ⟨0, _, by omega, rfl, HB6.out, HO6.out, fun h => absurd h (by omega)⟩
            case round =>
              obtain ⟨q, cs, hqg, rfl, hbel6, hown, hcl⟩ := hrel
              have HQG := hide hqg
              have hqn : q ≤ n := by omega
              have hgq : q < n → 0 < gk := by omega
              have HCl := hide hcl
              clear hqg hcl
              by_cases hlt : q < n
              · obtain ⟨b, off, hx, hb, hc⟩ := HF5.out (by omega)
                cases hx
                have hc := hc q hlt
                obtain ⟨x, hxx⟩ : ∃ x, x = ls.getD q d0 := ⟨_, rfl⟩
                have hch : ChOk w5 x.2 := by rw [hxx]; exact HChs.out _ (getD_mem ls q d0 (by rw [← HNL.out]; exact hlt))
                rw [← hxx] at hc
                have HX := hide hxx
                obtain ⟨cx, vx⟩ := x
                have t0 : wr.cell? ⟨gb, q * 4, none⟩ = some (.int .i64 cx.f) := by
                  have := hc 0 (by omega); rw [Nat.zero_add] at this
                  exact (hbel6.cell (p := ⟨gb, q * 4, none⟩) hb).trans this
                have t1 : wr.cell? ⟨gb, q * 4 + 1, none⟩ = some (.int .i64 cx.t) := by
                  have := hc 1 (by omega); rw [Nat.zero_add] at this
                  exact (hbel6.cell (p := ⟨gb, q * 4 + 1, none⟩) hb).trans this
                have t2 : wr.cell? ⟨gb, q * 4 + 2, none⟩ = some (.bool cx.m) := by
                  have := hc 2 (by omega); rw [Nat.zero_add] at this
                  exact (hbel6.cell (p := ⟨gb, q * 4 + 2, none⟩) hb).trans this
                have t3 : wr.cell? ⟨gb, q * 4 + 3, none⟩ = some vx := by
                  have := hc 3 (by omega); rw [Nat.zero_add] at this
                  exact (hbel6.cell (p := ⟨gb, q * 4 + 3, none⟩) hb).trans this
                have hgl : gb < wr.heap.size := Nat.lt_of_lt_of_le hb hbel6.size
                obtain ⟨o0, p0⟩ := own_cells hown q hlt 0 (by omega)
                obtain ⟨o1, p1⟩ := own_cells hown q hlt 1 (by omega)
                obtain ⟨o2, p2⟩ := own_cells hown q hlt 2 (by omega)
                obtain ⟨o3, p3⟩ := own_cells hown q hlt 3 (by omega)
                obtain ⟨o4, p4⟩ := own_cells hown q hlt 4 (by omega)
                rw [Nat.add_zero] at p0
                have r0 := hown.frozenAt (q * 5)
                have r1 := hown.frozenAt (q * 5 + 1)
                have r2 := hown.frozenAt (q * 5 + 2)
                have r3 := hown.frozenAt (q * 5 + 3)
                have r4 := hown.frozenAt (q * 5 + 4)
                have hl5 : w5.heap.size < wr.heap.size := World.block_lt_of_cell? wr _ p0
                have HOw := hide hown
                have HBel := hide hbel6
                clear hc hxx hown hbel6
                rcases hch with rfl | ⟨b', xt, rfl, hb', hcx⟩
                · go_wp2
                  go_region
                  go_wp2
                  go_roundg (gk - 1)
                  case measure => have := hgq hlt; omega
                  case rel =>
                    refine ⟨q + 1, lsets cs (q * 5) [.int .i64 cx.f, .int .i64 cx.t, .bool cx.m, .int .i64 0, .int .i64 0], by have := HQG.out; have := hgq hlt; omega, by go_num, zbel HBel.out _ _ [.int .i64 cx.f, .int .i64 cx.t, .bool cx.m, .int .i64 0, .int .i64 0] (q * 5), zown HOw.out _ _ [.int .i64 cx.f, .int .i64 cx.t, .bool cx.m, .int .i64 0, .int .i64 0] (q * 5), fun _ i hi => ?_⟩
                    rw [show q + 1 - 1 = q by omega, ← HX.out]
                    exact zcell HOw.out hlt hi
                · have hcx2 := (HBel.out.cell (p := ⟨b', 1, none⟩) hb').trans hcx
                  have hb2 : b' < wr.heap.size := Nat.lt_of_lt_of_le hb' HBel.out.size
                  clear hcx
                  go_wp2
                  go_region
                  go_wp2
                  go_roundg (gk - 1)
                  case measure => have := hgq hlt; omega
                  case rel =>
                    refine ⟨q + 1, lsets cs (q * 5) [.int .i64 cx.f, .int .i64 cx.t, .bool cx.m, .int .i64 1, .int .i64 xt], by have := HQG.out; have := hgq hlt; omega, by go_num, zbel HBel.out _ _ [.int .i64 cx.f, .int .i64 cx.t, .bool cx.m, .int .i64 1, .int .i64 xt] (q * 5), zown HOw.out _ _ [.int .i64 cx.f, .int .i64 cx.t, .bool cx.m, .int .i64 1, .int .i64 xt] (q * 5), fun _ i hi => ?_⟩
                    rw [show q + 1 - 1 = q by omega, ← HX.out]
                    exact zcell HOw.out hlt hi
              · have hqe : q = n := by omega
                subst hqe
                obtain ⟨m, hm⟩ : ∃ m, q = m + 1 := ⟨q - 1, by omega⟩
                have hfin : Below w.heap.size w wr := B5.trans (hbel6.mono B5.size)
                have HOw := hide hown
                have hl5 : w5.heap.size < wr.heap.size := World.block_lt_of_cell? wr _ (own_cells hown 0 (by omega) 0 (by omega)).choose_spec
                have hc3 : ∀ i, i < 3 → wr.cell? ⟨w5.heap.size, m * 5 + i, none⟩ = (cl c)[i]? := by
                  intro i hi
                  have h1 := HCl.out hpos i hi
                  rw [show q - 1 = m by omega] at h1
                  have h2 := hown.cellAt (m * 5 + i) (by omega)
                  have h3 := HLast.out
                  rw [← HNL.out, show q - 1 = m by omega] at h3
                  rw [h3] at h1
                  exact h2.trans h1
                have HC3 := hide hc3
                clear hown hc3
                go_wp2
                go_ret2
                exact ⟨.tuple #[.slice (some ⟨w5.heap.size, 0, none⟩) q q, .bool false], rfl, hfin, .inr ⟨c, w5.heap.size, m, q, HPe.out, by rw [hm], by omega, hl5, HC3.out 0 (by omega), HC3.out 1 (by omega), HC3.out 2 (by omega)⟩⟩
end Go.Proofs.Qxb6600021a
