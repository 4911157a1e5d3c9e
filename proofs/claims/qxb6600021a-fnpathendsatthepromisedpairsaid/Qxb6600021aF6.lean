/-
  path (57): the walk.
-/
import Derived.Test.Qxb6600021aF5
import Derived.Deep.RegionHeld2
namespace Go.Proofs.Qxb6600021a
open Go.RowKit
set_option linter.unusedVariables false

theorem hide {p : Prop} (h : p) : Hid p := h

theorem new_row {w : World} {B : Nat} (hB : w.heap.size = B) (xs : List Value) (t : TypeId) : ∀ j u, xs[j]? = some u → (w.alloc (.cells xs.toArray t)).cell? ((⟨B, 0, none⟩ : Addr).add j) = some u := by
  subst hB
  intro j u hu
  rw [Addr.add_lit, Nat.zero_add]
  rw [cell_of_row _ w.heap.size j xs.toArray t (0, 0) (heap_alloc_new w _)]
  simpa using hu

/-- The scan's state within one end: after j of the two marks. -/
def stj (L : List Edge) (F : Int) (s : Option Cel) (e : Int) : Nat → Option Cel
  | 0 => s
  | j + 1 => stp L (stj L F s e j) ⟨F, e, j == 1⟩

/-- 'end' lies in block g of wr as the state s says; all below g stands as in W. -/
structure StE (W wr : World) (g : Nat) (s : Option Cel) : Prop where
  bel : Below g W wr
  lt : g < wr.heap.size
  blk : wr.heap[g]? = some (.cells #[.int .i64 (s.getD c0).f, .int .i64 (s.getD c0).t, .bool (s.getD c0).m] 99 (0, 0))

theorem StE.two {W wr : World} {g : Nat} {s : Option Cel} (h : StE W wr g s) (A B : Obj) : StE W ((wr.alloc A).alloc B) g s :=
  ⟨(h.bel.alloc (Nat.le_of_lt h.lt) A).alloc (by simp; have := h.lt; omega) B, by simp; have := h.lt; omega, by
    rw [heap_alloc_old _ _ (by simp; have := h.lt; omega), heap_alloc_old _ _ h.lt]; exact h.blk⟩
theorem StE.one {W wr : World} {g : Nat} {s : Option Cel} (h : StE W wr g s) (A : Obj) : StE W (wr.alloc A) g s :=
  ⟨h.bel.alloc (Nat.le_of_lt h.lt) A, by simp; have := h.lt; omega, by rw [heap_alloc_old _ _ h.lt]; exact h.blk⟩
theorem StE.set {W wr : World} {g : Nat} {s : Option Cel} (h : StE W wr g s) (c : Cel) : StE W (wr.setCells g 0 (cl c)) g (some c) := by
  refine ⟨below_wsets (Nat.le_refl _) (cl c) 0 h.bel, ?_, ?_⟩
  · have := h.lt; simpa [cl, World.setCells] using this
  · have h1 := heap_setCell_same wr g 0 _ 99 (.int .i64 c.f) h.blk
    have h2 := heap_setCell_same _ g 1 _ 99 (.int .i64 c.t) h1
    exact heap_setCell_same _ g 2 _ 99 (.bool c.m) h2
theorem set_block {wr : World} {g g' : Nat} (h : g' ≠ g) (c : Cel) : (wr.setCells g 0 (cl c)).heap[g']? = wr.heap[g']? := by
  show (((wr.setCell ⟨g, 0, none⟩ (.int .i64 c.f)).setCell ⟨g, 1, none⟩ (.int .i64 c.t)).setCell ⟨g, 2, none⟩ (.bool c.m)).heap[g']? = _
  rw [heap_setCell_other _ ⟨g, 2, none⟩ g' _ h, heap_setCell_other _ ⟨g, 1, none⟩ g' _ h, heap_setCell_other _ ⟨g, 0, none⟩ g' _ h]

theorem ends_wf (x : Int) (n : Nat) (hn : n ≤ 65536) (k : Nat) : (Lit.int .i64 (wd (ends (wrap64 x) n) k)).wf = true := by
  cases k with
  | zero => exact wrap64_wf _
  | succ k =>
    by_cases h : k < n
    · rw [ends_at _ n k h]; exact WalkArith.wf_i64 (by omega)
    · have : wd (ends (wrap64 x) n) (k + 1) = 0 := by simp [wd, ends, List.getD, show n ≤ k by omega]
      rw [this]; rfl

theorem seek_has {L : List Edge} {f : Int} {c : Cel} : ∀ {n : Nat}, seek L f n = some c → has L c = true := by
  intro n
  induction n with
  | zero => intro h; cases h
  | succ n ih =>
    intro h
    rw [seek] at h
    cases hs : seek L f n with
    | some x => rw [hs] at h; cases h; exact ih hs
    | none =>
      rw [hs] at h
      by_cases h1 : has L ⟨f, n, false⟩ = true
      · simp [h1] at h; rw [← h]; exact h1
      · by_cases h2 : has L ⟨f, n, true⟩ = true
        · simp [h1, h2] at h; rw [← h]; exact h2
        · simp [h1, h2] at h
theorem pEnd_has {L : List Edge} {F T1 tt : Int} {pre : Bool} {c : Cel} (h : pEnd L F T1 tt pre = some c) : has L c = true := by
  unfold pEnd at h
  by_cases h1 : has L ⟨F, T1, false⟩ = true
  · simp [h1] at h; rw [← h]; exact h1
  · by_cases h2 : has L ⟨F, T1, true⟩ = true
    · simp [h1, h2] at h; rw [← h]; exact h2
    · cases pre
      · simp [h1, h2] at h
      · simp [h1, h2] at h; exact seek_has h
theorem has_ok {L : List Edge} (hOk : OkL L) {c : Cel} (h : has L c = true) : c.ok := by
  obtain ⟨i, _, he⟩ := (has_iff L c).1 h
  rw [← he]; exact (hOk i).1

theorem ChOk.form {w : World} {v : Value} (h : ChOk w v) : ∃ a n c, v = .slice a n c := by
  rcases h with rfl | ⟨b, x, rfl, _⟩
  · exact ⟨_, _, _, rfl⟩
  · exact ⟨_, _, _, rfl⟩
theorem ChOk.ofMap {w : World} {g : Cel → Option Value} (h : ∀ c v, g c = some v → ChOk w v) (c : Cel) : ChOk w ((g c).getD (.slice none 0 0)) := by
  cases e : g c with
  | none => exact .inl rfl
  | some v => exact h c v e

theorem own_new {W : World} {e sz : Nat} (xs : List Value) (h : xs.length = 1 * sz) : (W.alloc (.cells xs.toArray e)).ownsRow W.heap.size e sz (.slice (some ⟨W.heap.size, 0, none⟩) 1 1) 1 xs :=
  ⟨h, .inr ⟨W.heap.size, 1, xs.toArray, rfl, Nat.le_refl _, heap_alloc_new _ _, Nat.le_refl _, by unfold maxLen; omega, by simpa using h, by rw [List.take_of_length_le (by simp; omega)]⟩⟩

/-- append on a row of the call's own, as one step of a region that draws. -/
theorem step_append_own {P : Program} {ops : Array Oper} {o : Oper} {a : Act} {w : World} {K : Act → World → Prop} {Q : Exit → Act → World → Prop} {E : Prop}
    (hg : o.guard = none) (s x : Operand) (t : TypeId) (hop : o.op = Op.call { callee := Callee.builtin Builtin.append, args := #[s, x], argTypes := #[t, t] })
    (base : Nat) (e : TypeId) (i : TypeInfo) (z : Value) (size bytes : Nat) (h1 : P.underlying t = some (.slice e)) (h2 : P.info? e = some i) (hz : i.zero = some z) (h4 : i.size = size) (hby : i.bytes = bytes) (hzs : z.cells.size = size) (hsz : 0 < size)
    (v : Value) (n : Nat) (xs : List Value) (hs : a.eval s = v) (hown : w.ownsRow base e size v n xs)
    (ad : Addr) (m c : Nat) (news : List Value) (hx : a.eval x = .slice (some ad) m c) (hn : news.length = m * size) (hc : ∀ j u, news[j]? = some u → w.cell? (ad.add j) = some u) (h1c : ∀ u ∈ news, u.oneCell' = true)
    (b1 : n + m ≤ maxLen) (b2 : (n + m) * bytes ≤ 140737488355328) (b3 : base ≤ w.heap.size)
    (hK : ∀ v' w', w'.ownsRow base e size v' (n + m) (xs ++ news) → w.grownBy w' v.ownBlock → K (a.put o.dst v') w') :
    if Region.wanted o (yielded ops a.tmps) = true then Oper.wp P o a w K Q else E := by
  have hw : Region.wanted o (yielded ops a.tmps) = true := by simp [Region.wanted, hg]
  rw [if_pos hw]
  obtain ⟨v', w', hrun, r1, r2, _⟩ := run_append_own (P := P) w base t o.type e i z size bytes h1 h2 hz h4 hby hzs hsz v n xs hown ad m c news hn hc h1c b1 b2 b3
  unfold Oper.wp
  simp [execOp, hop, resolve, invoke, builtin, hs, hx, hrun, Result.andThen]
  exact hK v' w' r1 r2

abbrev zl : Value := .agg #[.int .i64 0, .int .i64 0, .bool false, .slice none 0 0]
theorem info115 : (Try.prog.info? 115).map (fun i => (i.zero, i.size, i.bytes)) = some (some zl, 4, 48) := by kernel_rfl
theorem neqz99 (a : Cel) (w : World) : (binOp .neq 99 (.agg #[.int .i64 a.f, .int .i64 a.t, .bool a.m]) (.agg #[.int .i64 0, .int .i64 0, .bool false])).run Try.prog w = .ok (.bool (!decide (a = c0))) w := neq99 w a c0

/-- Where the walk back stands: the path so far, and the cell k. -/
structure Lp (L : List Edge) (w wq wr : World) (c : Cel) (s20 s21 : Value) (ck : Cel) (ls : List Link) (gk : Nat) : Prop where
  ok : ck.ok
  len : ls.length + mu L ck ≤ L.length + 2
  pos : 0 < ls.length
  first : (ls.getD 0 d0).1 = c
  chs : ∀ x ∈ ls, ChOk w x.2
  own : wr.ownsRow wq.heap.size 115 4 s20 ls.length (ls.flatMap lc)
  ptr : s21 = .pointer (some ⟨gk, 0, none⟩)
  le : wq.heap.size ≤ gk
  blk : wr.heap[gk]? = some (.cells #[.int .i64 ck.f, .int .i64 ck.t, .bool ck.m] 99 (0, 0))
  bel : Below wq.heap.size wq wr

/-- W holds every block of wR but the row's. -/
def Sq (wR : World) (row : Option Nat) (W : World) : Prop := (∀ k, k < wR.heap.size → some k ≠ row → W.heap[k]? = wR.heap[k]?) ∧ wR.heap.size ≤ W.heap.size
theorem Sq.drew (wR : World) (row : Option Nat) : Sq wR row wR.drew := ⟨fun _ _ _ => rfl, Nat.le_refl _⟩
theorem Sq.alloc (wR : World) (row : Option Nat) (o : Obj) : Sq wR row (wR.drew.alloc o) := ⟨fun k h _ => heap_alloc_old _ _ h, by simp⟩
theorem Sq.app {wR w2 : World} {row : Option Nat} {o : Obj} (h : (wR.drew.alloc o).grownBy w2 row) : Sq wR row w2 :=
  ⟨fun k h1 h2 => (h.block k (by simp; omega) h2).trans (heap_alloc_old _ _ h1), by have := h.size; simp at this; omega⟩

theorem flat_set {α : Type} {c : α → List Value} {sz : Nat} (hc : ∀ a, (c a).length = sz) (hz : 0 < sz) (d : α) (L : List α) (i : Nat) (x : α) (hi : i < L.length) : lsets (L.flatMap c) (i * sz) (c x) = (L.set i x).flatMap c := by
  apply List.ext_getElem?
  intro j
  rw [lsets_get, hc, flat_length hc]
  by_cases hj : j < L.length * sz
  · have e : j = (j / sz) * sz + j % sz := by rw [Nat.mul_comm]; exact (Nat.div_add_mod j sz).symm
    have hq : j / sz < L.length := (Nat.div_lt_iff_lt_mul hz).2 hj
    have hr : j % sz < sz := Nat.mod_lt _ hz
    have h1 := flat_at hc d (L.set i x) (j / sz) (j % sz) (by rw [List.length_set]; exact hq) hr
    have h2 := flat_at hc d L (j / sz) (j % sz) hq hr
    rw [← e] at h1 h2
    rw [h1]
    by_cases hqi : j / sz = i
    · have e1 : j = i * sz + j % sz := by rw [← hqi]; exact e
      rw [if_pos ⟨by omega, by omega, hj⟩, hqi]
      have : (L.set i x).getD i d = x := by simp [List.getD, hi]
      rw [this, show j - i * sz = j % sz by omega]
    · have hno : ¬ (i * sz ≤ j ∧ j < i * sz + sz ∧ j < L.length * sz) := by
        rintro ⟨h3, h4, _⟩
        apply hqi
        have : j / sz < i + 1 := (Nat.div_lt_iff_lt_mul hz).2 (by rw [Nat.succ_mul]; exact h4)
        have : i ≤ j / sz := (Nat.le_div_iff_mul_le hz).2 h3
        omega
      rw [if_neg hno, h2]
      have : (L.set i x).getD (j / sz) d = L.getD (j / sz) d := by
        simp only [List.getD, List.getElem?_set]
        rw [if_neg (fun e => hqi e.symm)]
      rw [this]
  · rw [if_neg (by omega), List.getElem?_eq_none (by rw [flat_length hc]; omega), List.getElem?_eq_none (by rw [flat_length hc, List.length_set]; omega)]

theorem getD_set_same {α : Type} (L : List α) (i : Nat) (x d : α) (h : i < L.length) : (L.set i x).getD i d = x := by simp [List.getD, h]
theorem getD_set_other {α : Type} (L : List α) (i k : Nat) (x d : α) (h : i ≠ k) : (L.set i x).getD k d = L.getD k d := by
  simp only [List.getD, List.getElem?_set]
  rw [if_neg h]
theorem getD_mem {α : Type} (L : List α) (i : Nat) (d : α) (h : i < L.length) : L.getD i d ∈ L := by
  simp only [List.getD, List.getElem?_eq_getElem h, Option.getD_some]
  exact List.getElem_mem h

theorem own_drew {w : World} {B e sz n : Nat} {v : Value} {cs : List Value} (h : w.ownsRow B e sz v n cs) : w.drew.ownsRow B e sz v n cs := h
theorem own_swap {wr : World} {B gb n cap i j : Nat} {ls : List Link} (hown : wr.ownsRow B 115 4 (.slice (some ⟨gb, 0, none⟩) n cap) n (ls.flatMap lc)) (hl : ls.length = n) (hi : i < n) (hj : j < n) (x y : Link) :
    ((wr.setCells gb (i * 4) (lc x)).setCells gb (j * 4) (lc y)).drew.ownsRow B 115 4 (.slice (some ⟨gb, 0, none⟩) n cap) n (((ls.set i x).set j y).flatMap lc) := by
  have h1 := own_wsets (lc x) (i * 4) hown
  rw [flat_set lc_length (by omega) d0 ls i x (by omega)] at h1
  have h2 := own_wsets (lc y) (j * 4) h1
  rw [flat_set lc_length (by omega) d0 (ls.set i x) j y (by rw [List.length_set]; omega)] at h2
  exact own_drew h2
theorem below_swap {w wr : World} {B gb : Nat} (hg : B ≤ gb) (i j : Nat) (x y : Link) (h : Below B w wr) : Below B w ((wr.setCells gb i (lc x)).setCells gb j (lc y)).drew := (below_wsets hg (lc y) j (below_wsets hg (lc x) i h)).drew

def PathPost (L : List Edge) (F T1 tt : Int) (pre : Bool) (w' : World) (v : Value) : Prop :=
  (pEnd L F T1 tt pre = none ∧ v = .slice none 0 0) ∨
  ∃ c ls gb cap, pEnd L F T1 tt pre = some c ∧ v = .slice (some ⟨gb, 0, none⟩) ls.length cap ∧ 0 < ls.length ∧ ls.length ≤ 4098 ∧ (ls.getD (ls.length - 1) d0).1 = c ∧ Rw lc 4 w' v ls ∧ ∀ x ∈ ls, ChOk w' x.2

set_option maxHeartbeats 4000000 in
set_option maxRecDepth 100000 in
theorem path57 {L : List Edge} (bB bC n1 n2 : Nat) (g : Cel → Option Value) (fr tt F T1 : Int) (pre : Bool) (w : World) (hMB : MapF w bB n1 (BF L)) (hMC : MapF w bC n2 g) (hg : ∀ c v, g c = some v → ChOk w v)
    (hCh : Chains L) (hOk : OkL L) (hs : L.length ≤ 4096) (hF : wrap64 (fr - 1) = F) (hT : wrap64 (tt - 1) = T1) (htt : -9223372036854775808 ≤ tt ∧ tt ≤ 65536) :
    Calls Try.prog 57 #[.agg #[.map (some bB), .map (some bC)], .int .i64 fr, .int .i64 tt, .bool pre] w fun e w' => ∃ v, e = .returned v ∧ Below w.heap.size w w' ∧ PathPost L F T1 tt pre w' v := by
  have HMB := hide hMB
  have HMC := hide hMC
  have HG := hide hg
  have HCh := hide hCh
  have HOk := hide hOk
  clear hMB hMC hg hCh hOk
  obtain ⟨i0, hi0, hz0, hz1, hz2⟩ := info_parts info3
  go_enter Try.func57, Try.ntmps57
  go_upto_if 27 with fail
  have hB0 : Below w.heap.size w (w.alloc (.cells #[.map (some bB), .map (some bC)] 97)) := (Below.refl _ _).alloc (Nat.le_refl _) _
  have hk0 : (w.alloc (.cells #[.map (some bB), .map (some bC)] 97)).heap[w.heap.size]? = some (.cells #[.map (some bB), .map (some bC)] 97 (0, 0)) := heap_alloc_new _ _
  have hl0 : (w.alloc (.cells #[.map (some bB), .map (some bC)] 97)).heap.size = w.heap.size + 1 := by simp
  generalize w.alloc (.cells #[.map (some bB), .map (some bC)] 97) = W0 at hB0 hk0 hl0 ⊢
  have HK0 := hide hk0
  clear hk0
  have hown0 : (W0.alloc (.cells #[.int .i64 T1] 3)).ownsRow (w.heap.size + 1) 3 1 (.slice (some ⟨w.heap.size + 1, 0, none⟩) 1 1) (ends T1 0).length ((ends T1 0).map (Value.int .i64)) := by
    refine ⟨rfl, .inr ⟨w.heap.size + 1, 1, #[.int .i64 T1], rfl, Nat.le_refl _, ?_, Nat.le_refl _, by unfold maxLen; omega, rfl, rfl⟩⟩
    rw [← hl0]; exact heap_alloc_new _ _
  have HO0 := hide hown0
  have hb0 : Below (w.heap.size + 1) W0 (W0.alloc (.cells #[.int .i64 T1] 3)) := (Below.refl _ _).alloc (by omega) _
  clear hown0
  go_cut [9] (fun s9 wx => wx.ownsRow (w.heap.size + 1) 3 1 s9 (ends T1 (if pre = true then tt.toNat else 0)).length ((ends T1 (if pre = true then tt.toNat else 0)).map (Value.int .i64)) ∧ Below (w.heap.size + 1) W0 wx)
  case first =>
    cases pre
    · clear hi0 hz0 hz1 hz2
      go_wp2
      go_meet
      exact ⟨HO0.out, hb0⟩
    · go_wp2
      go_loopg [9, 29] tt.toNat (fun gn s9 si wr => ∃ k : Nat, k + gn = tt.toNat ∧ si = .int .i64 k ∧ wr.ownsRow (w.heap.size + 1) 3 1 s9 (k + 1) ((ends T1 k).map (Value.int .i64)) ∧ Below (w.heap.size + 1) W0 wr)
      case atStart => exact ⟨0, by omega, rfl, HO0.out, hb0⟩
      case round =>
        obtain ⟨k, hkg, rfl, hown, hbel⟩ := hrel
        have HKG : Hid (k + gk = tt.toNat) := hkg
        have hk : (k : Int) ≤ 65536 := by omega
        have hgk : (k : Int) < tt → 0 < gk := by omega
        have hkn : ¬ (k : Int) < tt → k = tt.toNat := by omega
        clear hkg
        obtain ⟨a9, c9, rfl, hf9⟩ := own_form hown
        have HOw := hide hown
        clear hown hf9
        by_cases hlt : (k : Int) < tt
        · go_wp2_with (at_builtin; refine wpList_append_own _ rfl (.tmp 32) (.tmp 34) 39 rfl (w.heap.size + 1) 3 i0 (.int .i64 0) 1 8 Try.underlying39 hi0 hz0 hz1 hz2 rfl (by decide) _ _ _ rfl (HOw.out.alloc _) ⟨wr.heap.size, 0, none⟩ 1 1 [.int .i64 k] rfl rfl (new_row rfl _ _) (ints_oneCell .i64 [(k : Int)]) ?b1 ?b2 ?b3 ?_)
          case b1 => unfold maxLen; omega
          case b2 => omega
          case b3 => have h1 := hbel.size; first | omega | (simp only [World.heap_size_alloc]; omega)
          intro v' w1 hown' hgrow hnil
          have BB : Below (w.heap.size + 1) W0 w1 := (hbel.alloc (by have := hbel.size; omega) _).grown hgrow (by simp; have := hbel.size; omega) (fun j hj => (HOw.out.lt j hj).1)
          have HO' : Hid (w1.ownsRow (w.heap.size + 1) 3 1 v' (k + 1 + 1) ((ends T1 k).map (Value.int .i64) ++ [.int .i64 k])) := hown'
          clear hown' hgrow hnil
          go_wp2
          go_roundg (gk - 1)
          case measure => have := hgk hlt; omega
          case rel => exact ⟨k + 1, by have := HKG.out; have := hgk hlt; omega, by go_num, by rw [ends_succ, List.map_append]; exact HO'.out, BB⟩
        · have hkn' := hkn hlt
          have HKN : Hid _ := hkn'
          clear hkn hkn' hgk
          go_wp2
          go_meet
          refine ⟨?_, hbel⟩
          rw [if_pos trivial, ← HKN.out, ends_length]
          exact HOw.out
  case rest =>
  obtain ⟨wA, hwA⟩ : ∃ W, W = wc := ⟨_, rfl⟩
  subst hwA
  obtain ⟨ho9, hb9⟩ := hcut
  have hes := scan_end L F T1 tt pre
  have hel : (ends T1 (if pre = true then tt.toNat else 0)).length ≤ 65537 := by rw [ends_length]; split <;> omega
  have hew : ∀ k, (Lit.int .i64 (wd (ends T1 (if pre = true then tt.toNat else 0)) k)).wf = true := by
    rw [← hT]; exact ends_wf _ _ (by split <;> omega)
  have hFw : (Lit.int .i64 F).wf = true := by rw [← hF]; exact wrap64_wf _
  generalize ends T1 (if pre = true then tt.toNat else 0) = es at ho9 hes hel hew
  have HEw := hide hew
  have HFw := hide hFw
  clear hew hFw
  have HScan := hide hes
  have hNs : Ns .i64 wA u9 es := Ns.ofOwn ho9
  obtain ⟨a9, n9, c9, rfl, hn9, _, hM9, hf9⟩ := hNs.form
  have HN9 := hide hn9
  have HF9 := hide hf9
  have hel : n9 ≤ 65537 := by omega
  have hw9 : Below w.heap.size w wA := hB0.trans (hb9.mono (Nat.le_succ _))
  have hbox := (hb9.block w.heap.size (Nat.lt_succ_self _)).trans HK0.out
  have HBox := hide hbox
  have hsz9 : w.heap.size + 1 ≤ wA.heap.size := by have := hb9.size; omega
  clear hes hNs hn9 hf9 hbox ho9 hb9 HO0 hb0 hi0 hz0 hz1 hz2 HK0 hB0 hl0
  go_wp2
  have hst0 : StE wA (wA.alloc (.cells #[.int .i64 0, .int .i64 0, .bool false] 99)) wA.heap.size none := ⟨(Below.refl _ _).alloc (Nat.le_refl _) _, by simp, heap_alloc_new _ _⟩
  have HSt0 := hide hst0
  clear hst0
  go_loopg [12, 40] n9 (fun gn s12 si wr => ∃ k : Nat, k + gn = n9 ∧ si = .int .i64 k ∧ s12 = .bool (scan L F es k).isSome ∧ StE wA wr wA.heap.size (scan L F es k))
  case atStart => exact ⟨0, by omega, rfl, rfl, HSt0.out⟩
  case round =>
    clear HSt0
    obtain ⟨G0, hG0⟩ : ∃ G0, G0 = gk := ⟨_, rfl⟩
    subst hG0
    obtain ⟨wq, hwq⟩ : ∃ wq, wq = wr := ⟨_, rfl⟩
    subst hwq
    obtain ⟨k, hkg, rfl, rfl, hste⟩ := hrel
    have HKG : Hid (k + G0 = n9) := hkg
    have hk : k ≤ n9 := by omega
    have hgk : k < n9 → 0 < G0 := by omega
    clear hkg
    by_cases hlt : k < n9
    · obtain ⟨b9, o9, ha9, hb9, hc9⟩ := HF9.out (by omega)
      subst ha9
      have x9 := (hste.bel.cell (p := ⟨b9, o9 + k, none⟩) (by exact hb9)).trans (hc9 k hlt)
      obtain ⟨e, he⟩ : ∃ e, e = wd es k := ⟨_, rfl⟩
      rw [← he] at x9
      have HEe := hide he
      obtain ⟨sk, hsk⟩ : ∃ sk, sk = scan L F es k := ⟨_, rfl⟩
      have HSk := hide hsk
      rw [← hsk] at hste
      rw [← hsk]
      have HSte := hide hste
      clear hc9 he hsk hste
      go_wp2
      go_loopg [12, 46] 2 (fun gn s12 si wx => ∃ j : Nat, j + gn = 2 ∧ si = .int .i64 j ∧ s12 = .bool (stj L F sk e j).isSome ∧ StE wA wx wA.heap.size (stj L F sk e j) ∧ wx.heap[wq.heap.size]? = some (.cells #[.bool false, .bool true] 4 (0, 0)) ∧ wq.heap.size < wx.heap.size)
      case atStart => exact ⟨0, by omega, rfl, rfl, HSte.out.one _, heap_alloc_new _ _, by simp⟩
      case round =>
        obtain ⟨j, hjg, rfl, rfl, hst, hbl, hbls⟩ := hrel
        have HJG := hide hjg
        have hj : j ≤ 2 := by omega
        have hgj : j < 2 → 0 < gk := by omega
        clear hjg
        have HSt := hide hst
        have HBl := hide hbl
        have hgl := hst.lt
        have hbw : Below w.heap.size w wr := hw9.trans (hst.bel.mono hw9.size)
        clear hst hbl
        have z0 : wr.cell? ⟨w.heap.size, 0, none⟩ = some (.map (some bB)) := by
          rw [HSt.out.bel.cell (p := ⟨w.heap.size, 0, none⟩) (by show w.heap.size < wA.heap.size; omega), cell_of_row wA w.heap.size 0 _ 97 (0, 0) HBox.out]; rfl
        have hszw : w.heap.size < wr.heap.size := by omega
        by_cases hltj : j < 2
        · have y0 : wr.cell? ⟨wq.heap.size, j, none⟩ = some (.bool (j == 1)) := by
            rw [cell_of_row wr wq.heap.size j _ 4 (0, 0) HBl.out]
            have : j = 0 ∨ j = 1 := by omega
            rcases this with rfl | rfl <;> rfl
          have hstep : stj L F sk e (j + 1) = stp L (stj L F sk e j) ⟨F, e, j == 1⟩ := rfl
          obtain ⟨b, hb⟩ : ∃ b, b = (j == 1) := ⟨_, rfl⟩
          rw [← hb] at y0 hstep
          have hcok : Cel.ok ⟨F, e, b⟩ := ⟨HFw.out, by rw [HEe.out]; exact HEw.out k⟩
          have hlk : (Instr.lookup 94 (.map (some bB)) (.agg #[.int .i64 F, .int .i64 e, .bool b]) true).run Try.prog (wr.alloc (.cells #[.int .i64 F, .int .i64 e, .bool b] 99)) = .ok (.tuple #[cv (nxt L ⟨F, e, b⟩), .bool (has L ⟨F, e, b⟩)]) (wr.alloc (.cells #[.int .i64 F, .int .i64 e, .bool b] 99)) := by
            have h1 := (HMB.out.below (hbw.alloc hbw.size (.cells #[.int .i64 F, .int .i64 e, .bool b] 99))).look_ok Try.underlying94 (zero99 _) hcok
            rw [BF_get, BF_some] at h1
            exact h1
          have hst := HSt.out
          have tj : decide ((j : Int) < 2) = true := decide_eq_true (by omega)
          obtain ⟨sj, hsj⟩ : ∃ sj, sj = stj L F sk e j := ⟨_, rfl⟩
          rw [← hsj] at hst hstep
          rw [← hsj]
          have HStep := hide hstep
          have HSt2 := hide hst
          clear hst HSt hsj hb hcok hstep
          cases sj with
          | some x0 =>
            obtain ⟨x, hx⟩ : ∃ x, x = nxt L ⟨F, e, b⟩ := ⟨_, rfl⟩
            rw [← hx] at hlk
            obtain ⟨hh, hhx⟩ : ∃ hh, hh = has L ⟨F, e, b⟩ := ⟨_, rfl⟩
            rw [← hhx] at hlk
            clear hx hhx
            go_wp2
            go_roundg (gk - 1)
            case measure => have := hgj hltj; omega
            case rel => exact ⟨j + 1, by have := HJG.out; have := hgj hltj; omega, by go_num, by rw [HStep.out]; rfl, by rw [HStep.out]; exact HSt2.out.two _ _, by rw [heap_alloc_old _ _ (by simp; omega), heap_alloc_old _ _ hbls]; exact HBl.out, by simp; omega⟩
          | none =>
            obtain ⟨x, hx⟩ : ∃ x, x = nxt L ⟨F, e, b⟩ := ⟨_, rfl⟩
            rw [← hx] at hlk
            clear hx
            by_cases hh : has L ⟨F, e, b⟩ = true
            · rw [hh] at hlk
              have HH := hide hh
              obtain ⟨_, p0, p1, p2, r0, r1, r2⟩ := blk3 HSt2.out.blk
              have hne : ¬ wq.heap.size = wA.heap.size := by
                intro e1
                have := HBl.out
                rw [e1, HSt2.out.blk] at this
                simp at this
              clear hh
              go_wp2
              go_roundg (gk - 1)
              case measure => have := hgj hltj; omega
              case rel =>
                have hsn : stj L F sk e (j + 1) = some ⟨F, e, b⟩ := by rw [HStep.out]; show (if has L ⟨F, e, b⟩ then _ else _) = _; rw [if_pos HH.out]
                exact ⟨j + 1, by have := HJG.out; have := hgj hltj; omega, by go_num, by rw [hsn]; rfl, by rw [hsn]; exact (HSt2.out.set ⟨F, e, b⟩).two _ _, by
                  rw [heap_alloc_old _ _ (by simp; omega), heap_alloc_old _ _ (by simpa using hbls)]
                  exact (set_block hne ⟨F, e, b⟩).trans HBl.out, by simp; omega⟩
            · rw [Bool.eq_false_iff.2 hh] at hlk
              have HH := hide hh
              clear hh
              go_wp2
              go_roundg (gk - 1)
              case measure => have := hgj hltj; omega
              case rel =>
                have hsn : stj L F sk e (j + 1) = none := by rw [HStep.out]; show (if has L ⟨F, e, b⟩ then _ else _) = _; rw [if_neg HH.out]
                exact ⟨j + 1, by have := HJG.out; have := hgj hltj; omega, by go_num, by rw [hsn], by rw [hsn]; exact HSt2.out.two _ _, by rw [heap_alloc_old _ _ (by simp; omega), heap_alloc_old _ _ hbls]; exact HBl.out, by simp; omega⟩
        · have hj2 : j = 2 := by omega
          subst hj2
          have HS2 : Hid (stj L F sk e 2 = scan L F es (k + 1)) := by show stj L F sk e 2 = stp2 L F (scan L F es k) (wd es k); rw [← HSk.out, ← HEe.out]; rfl
          go_wp2
          go_roundg (G0 - 1)
          case measure => have := hgk hlt; omega
          case rel => exact ⟨k + 1, by have := HKG.out; have := hgk hlt; omega, by go_num, by rw [← HS2.out], by rw [← HS2.out]; exact HSt.out⟩
    · have hkn : k = es.length := by rw [← HN9.out]; omega
      subst hkn
      have hste := hste
      rw [HScan.out] at hste
      rw [HScan.out]
      have HSte := hide hste
      have hbw : Below w.heap.size w wq := hw9.trans (hste.bel.mono hw9.size)
      clear hste hk hgk HKG
      generalize hpe : pEnd L F T1 tt pre = pe at HSte ⊢
      have HPe := hide hpe
      clear hpe
      cases pe with
      | none =>
        rw [show (none : Option Cel).isSome = false from rfl]
        go_wp2
        go_ret
        exact ⟨_, rfl, hbw, .inl ⟨HPe.out, rfl⟩⟩
      | some c =>
        rw [show (some c).isSome = true from rfl]
        have hcok : c.ok := has_ok HOk.out (pEnd_has HPe.out)
        have hz0 : wq.cell? ⟨w.heap.size, 0, none⟩ = some (.map (some bB)) := by
          rw [HSte.out.bel.cell (p := ⟨w.heap.size, 0, none⟩) (by show w.heap.size < wA.heap.size; omega), cell_of_row wA w.heap.size 0 _ 97 (0, 0) HBox.out]; rfl
        have hz1 : wq.cell? ⟨w.heap.size, 1, none⟩ = some (.map (some bC)) := by
          rw [HSte.out.bel.cell (p := ⟨w.heap.size, 1, none⟩) (by show w.heap.size < wA.heap.size; omega), cell_of_row wA w.heap.size 1 _ 97 (0, 0) HBox.out]; rfl
        have hblk : wq.heap[wA.heap.size]? = some (.cells #[.int .i64 c.f, .int .i64 c.t, .bool c.m] 99 (0, 0)) := HSte.out.blk
        have hlq : wA.heap.size < wq.heap.size := HSte.out.lt
        obtain ⟨_, p0, p1, p2, _, _, _⟩ := blk3 hblk
        obtain ⟨v0, hv0⟩ : ∃ v0, v0 = (g c).getD (.slice none 0 0) := ⟨_, rfl⟩
        have hch0 : ChOk w v0 := by rw [hv0]; exact ChOk.ofMap HG.out c
        have hlk : (Instr.lookup 95 (.map (some bC)) (.agg #[.int .i64 c.f, .int .i64 c.t, .bool c.m]) false).run Try.prog wq.drew = .ok v0 wq.drew := by
          rw [hv0]; exact ((HMC.out.below hbw).block (w' := wq.drew) rfl).look Try.underlying95 (zero111 _) hcok
        obtain ⟨av, nv, cpv, rfl⟩ := hch0.form
        have HCh0 := hide hch0
        have HBlk := hide hblk
        have HCok := hide hcok
        clear hv0 hch0 hblk hcok
        go_upto_region 23 with fail
        go_cut [20] (fun s20 wx => wx.ownsRow wq.heap.size 115 4 s20 1 (lc (c, .slice av nv cpv)) ∧ Below wq.heap.size wq wx)
        case first =>
          go_region
          all_goals
            go_wp2_with fail
            go_meet
            exact ⟨own_new (W := wq.drew) (lc (c, .slice av nv cpv)) rfl, (Below.refl _ _).drew.alloc (Nat.le_refl _) _⟩
        case rest =>
        obtain ⟨ho20, hb20⟩ := hcut
        have HO20 := hide ho20
        have p0 := (hb20.cell (p := ⟨wA.heap.size, 0, none⟩) hlq).trans p0
        have p1 := (hb20.cell (p := ⟨wA.heap.size, 1, none⟩) hlq).trans p1
        have p2 := (hb20.cell (p := ⟨wA.heap.size, 2, none⟩) hlq).trans p2
        have hml := mu_le L c
        clear ho20 hlk
        go_wp2
        have hq := neqz99
        go_loopg [20, 21] (mu L c) (fun gn s20 s21 wr => ∃ ck ls gk, gn = mu L ck ∧ Lp L w wq wr c s20 s21 ck ls gk)
        case atStart => exact ⟨c, [(c, .slice av nv cpv)], _, rfl, HCok.out, by simp; omega, by simp, rfl, by intro x hx; simp at hx; rw [hx]; exact HCh0.out, HO20.out.alloc _, rfl, hb20.size, heap_alloc_new _ _, hb20.alloc hb20.size _⟩
        case round =>
          obtain ⟨wR, hwR⟩ : ∃ W, W = wr := ⟨_, rfl⟩
          subst hwR
          obtain ⟨ck, ls, gp, hgm, hlp⟩ := hrel
          have HGM := hide hgm
          have HLp := hide hlp
          obtain ⟨_, hlen, _, _, _, hown, rfl, hle, hblk, hbel⟩ := hlp
          have HOwn := hide hown
          have hbr : Below w.heap.size w wR := hbw.trans (hbel.mono hbw.size)
          have z0 := (hbel.cell (p := ⟨w.heap.size, 0, none⟩) (by show w.heap.size < wq.heap.size; omega)).trans hz0
          have z1 := (hbel.cell (p := ⟨w.heap.size, 1, none⟩) (by show w.heap.size < wq.heap.size; omega)).trans hz1
          obtain ⟨_, g0, g1, g2, _, _, _⟩ := blk3 hblk
          have HBk := hide hblk
          clear hgm hown hblk
          by_cases hz : ck = c0
          · have tz : decide (ck = c0) = true := decide_eq_true hz
            obtain ⟨a20, c20, hu20, hcl, _, hg20⟩ := own_form HOwn.out
            obtain ⟨gb, ha20, hbg, _⟩ := hg20 HLp.out.pos
            subst ha20
            subst hu20
            obtain ⟨n, hn⟩ : ∃ n, n = ls.length := ⟨_, rfl⟩
            rw [← hn]
            rw [← hn] at hlen
            have hpos : 0 < n := by rw [hn]; exact HLp.out.pos
            have hn98 : n ≤ 4098 := by omega
            have hOw0 : wR.ownsRow wq.heap.size 115 4 (.slice (some ⟨gb, 0, none⟩) n c20) n (ls.flatMap lc) := by rw [hn]; exact HOwn.out
            have HOw0 := hide hOw0
            have HLn := hide hn
            clear hOw0 HOwn hz hg20 hcl hn
            go_wp2
            go_loopg [22, 23] n (fun gn si sj wr => ∃ (i : Nat) (ls' : List Link), i + gn = n ∧ si = .int .i64 i ∧ sj = .int .i64 ((n : Int) - 1 - i) ∧ ls'.length = n ∧ wr.ownsRow wq.heap.size 115 4 (.slice (some ⟨gb, 0, none⟩) n c20) n (ls'.flatMap lc) ∧ (ls'.getD (if i = 0 then 0 else n - 1) d0).1 = c ∧ (∀ y ∈ ls', ChOk w y.2) ∧ Below wq.heap.size wq wr)
            case atStart => exact ⟨0, ls, by omega, rfl, by simp, HLn.out.symm, HOw0.out, HLp.out.first, HLp.out.chs, hbel⟩
            case round =>
              obtain ⟨i, ls', hig, rfl, rfl, hl', hown', hfst', hchs', hbel'⟩ := hrel
              have HIG := hide hig
              have hi : i ≤ n := by omega
              have hgi : i < n → 0 < gk := by omega
              have HFst := hide hfst'
              have HChs := hide hchs'
              clear hig hfst' hchs'
              by_cases hlt : (i : Int) < (n : Int) - 1 - i
              · obtain ⟨j, hj⟩ : ∃ j : Nat, (n : Int) - 1 - i = j := ⟨n - 1 - i, by omega⟩
                have hij : i < j := by omega
                have hin : i < n := by omega
                have hjn : j < n := by omega
                have HJ : Hid (i + j + 1 = n) := by show i + j + 1 = n; omega
                rw [hj]
                rw [hj] at hlt
                obtain ⟨xi, hxi⟩ : ∃ xi, xi = ls'.getD i d0 := ⟨_, rfl⟩
                obtain ⟨xj, hxj⟩ : ∃ xj, xj = ls'.getD j d0 := ⟨_, rfl⟩
                have hci : ChOk w xi.2 := by rw [hxi]; exact HChs.out _ (getD_mem ls' i d0 (by omega))
                have hcj : ChOk w xj.2 := by rw [hxj]; exact HChs.out _ (getD_mem ls' j d0 (by omega))
                obtain ⟨ci, vi⟩ := xi
                obtain ⟨cj, vj⟩ := xj
                obtain ⟨ai, ni, ki, hvi⟩ := hci.form
                obtain ⟨aj, nj, kj, hvj⟩ := hcj.form
                simp only at hvi hvj
                subst hvi hvj
                have HCi := hide hci
                have HCj := hide hcj
                have ic0 : wr.cell? ⟨gb, i * 4, none⟩ = some (.int .i64 ci.f) := by
                  have h1 := hown'.cellAt (i * 4 + 0) (by omega)
                  rw [flat_at lc_length d0 ls' i 0 (by omega) (by omega), ← hxi] at h1
                  exact h1
                have if0 := hown'.frozenAt (i * 4)
                have ic1 : wr.cell? ⟨gb, i * 4 + 1, none⟩ = some (.int .i64 ci.t) := by
                  have h1 := hown'.cellAt (i * 4 + 1) (by omega)
                  rw [flat_at lc_length d0 ls' i 1 (by omega) (by omega), ← hxi] at h1
                  exact h1
                have if1 := hown'.frozenAt (i * 4 + 1)
                have ic2 : wr.cell? ⟨gb, i * 4 + 2, none⟩ = some (.bool ci.m) := by
                  have h1 := hown'.cellAt (i * 4 + 2) (by omega)
                  rw [flat_at lc_length d0 ls' i 2 (by omega) (by omega), ← hxi] at h1
                  exact h1
                have if2 := hown'.frozenAt (i * 4 + 2)
                have ic3 : wr.cell? ⟨gb, i * 4 + 3, none⟩ = some (.slice ai ni ki) := by
                  have h1 := hown'.cellAt (i * 4 + 3) (by omega)
                  rw [flat_at lc_length d0 ls' i 3 (by omega) (by omega), ← hxi] at h1
                  exact h1
                have if3 := hown'.frozenAt (i * 4 + 3)
                have jc0 : wr.cell? ⟨gb, j * 4, none⟩ = some (.int .i64 cj.f) := by
                  have h1 := hown'.cellAt (j * 4 + 0) (by omega)
                  rw [flat_at lc_length d0 ls' j 0 (by omega) (by omega), ← hxj] at h1
                  exact h1
                have jf0 := hown'.frozenAt (j * 4)
                have jc1 : wr.cell? ⟨gb, j * 4 + 1, none⟩ = some (.int .i64 cj.t) := by
                  have h1 := hown'.cellAt (j * 4 + 1) (by omega)
                  rw [flat_at lc_length d0 ls' j 1 (by omega) (by omega), ← hxj] at h1
                  exact h1
                have jf1 := hown'.frozenAt (j * 4 + 1)
                have jc2 : wr.cell? ⟨gb, j * 4 + 2, none⟩ = some (.bool cj.m) := by
                  have h1 := hown'.cellAt (j * 4 + 2) (by omega)
                  rw [flat_at lc_length d0 ls' j 2 (by omega) (by omega), ← hxj] at h1
                  exact h1
                have jf2 := hown'.frozenAt (j * 4 + 2)
                have jc3 : wr.cell? ⟨gb, j * 4 + 3, none⟩ = some (.slice aj nj kj) := by
                  have h1 := hown'.cellAt (j * 4 + 3) (by omega)
                  rw [flat_at lc_length d0 ls' j 3 (by omega) (by omega), ← hxj] at h1
                  exact h1
                have jf3 := hown'.frozenAt (j * 4 + 3)
                have ne00 : ¬ i * 4 = j * 4 := by omega
                have nf00 : ¬ j * 4 = i * 4 := by omega
                have ne01 : ¬ i * 4 = j * 4 + 1 := by omega
                have nf01 : ¬ j * 4 + 1 = i * 4 := by omega
                have ne02 : ¬ i * 4 = j * 4 + 2 := by omega
                have nf02 : ¬ j * 4 + 2 = i * 4 := by omega
                have ne03 : ¬ i * 4 = j * 4 + 3 := by omega
                have nf03 : ¬ j * 4 + 3 = i * 4 := by omega
                have ne10 : ¬ i * 4 + 1 = j * 4 := by omega
                have nf10 : ¬ j * 4 = i * 4 + 1 := by omega
                have ne11 : ¬ i * 4 + 1 = j * 4 + 1 := by omega
                have nf11 : ¬ j * 4 + 1 = i * 4 + 1 := by omega
                have ne12 : ¬ i * 4 + 1 = j * 4 + 2 := by omega
                have nf12 : ¬ j * 4 + 2 = i * 4 + 1 := by omega
                have ne13 : ¬ i * 4 + 1 = j * 4 + 3 := by omega
                have nf13 : ¬ j * 4 + 3 = i * 4 + 1 := by omega
                have ne20 : ¬ i * 4 + 2 = j * 4 := by omega
                have nf20 : ¬ j * 4 = i * 4 + 2 := by omega
                have ne21 : ¬ i * 4 + 2 = j * 4 + 1 := by omega
                have nf21 : ¬ j * 4 + 1 = i * 4 + 2 := by omega
                have ne22 : ¬ i * 4 + 2 = j * 4 + 2 := by omega
                have nf22 : ¬ j * 4 + 2 = i * 4 + 2 := by omega
                have ne23 : ¬ i * 4 + 2 = j * 4 + 3 := by omega
                have nf23 : ¬ j * 4 + 3 = i * 4 + 2 := by omega
                have ne30 : ¬ i * 4 + 3 = j * 4 := by omega
                have nf30 : ¬ j * 4 = i * 4 + 3 := by omega
                have ne31 : ¬ i * 4 + 3 = j * 4 + 1 := by omega
                have nf31 : ¬ j * 4 + 1 = i * 4 + 3 := by omega
                have ne32 : ¬ i * 4 + 3 = j * 4 + 2 := by omega
                have nf32 : ¬ j * 4 + 2 = i * 4 + 3 := by omega
                have ne33 : ¬ i * 4 + 3 = j * 4 + 3 := by omega
                have nf33 : ¬ j * 4 + 3 = i * 4 + 3 := by omega
                have HO' := hide hown'
                have HXi := hide hxi
                clear hci hcj hown' hxj hxi hj
                go_wp2
                go_region
                have HB2 := hide (below_swap hbg (i * 4) (j * 4) (cj, .slice aj nj kj) (ci, .slice ai ni ki) hbel')
                have HO2 := hide (own_swap HO'.out hl' hin hjn (cj, .slice aj nj kj) (ci, .slice ai ni ki))
                go_wp2
                go_roundg (gk - 1)
                case measure => have := hgi (by omega); omega
                case rel =>
                  refine ⟨i + 1, (ls'.set i (cj, .slice aj nj kj)).set j (ci, .slice ai ni ki), by have := HIG.out; have := hgi (by omega); omega, by go_num, ?_, by simp; exact hl', HO2.out, ?_, ?_, HB2.out⟩
                  · have := HJ.out
                    rw [show (n : Int) - 1 - ((i + 1 : Nat) : Int) = (j : Int) - 1 by omega]
                    try go_num
                  · have hJ := HJ.out
                    rw [if_neg (by omega)]
                    by_cases hi0 : i = 0
                    · have : j = n - 1 := by omega
                      rw [← this, getD_set_same _ _ _ _ (by rw [List.length_set]; omega)]
                      have h1 := HFst.out
                      rw [if_pos hi0, ← hi0, ← HXi.out] at h1
                      exact h1
                    · rw [getD_set_other _ _ _ _ _ (by omega), getD_set_other _ _ _ _ _ (by omega)]
                      have h1 := HFst.out
                      rw [if_neg hi0] at h1
                      exact h1
                  · intro y hy
                    rcases List.mem_or_eq_of_mem_set hy with hy | rfl
                    · rcases List.mem_or_eq_of_mem_set hy with hy | rfl
                      · exact HChs.out y hy
                      · exact HCj.out
                    · exact HCi.out
              · have tlt : ¬ (i : Int) < (n : Int) - 1 - i := hlt
                have HO' := hide hown'
                have hfin : Below w.heap.size w wr := hbw.trans (hbel'.mono hbw.size)
                have hlast : (ls'.getD (ls'.length - 1) d0).1 = c := by
                  have h1 := HFst.out
                  by_cases hi0 : i = 0
                  · rw [if_pos hi0] at h1
                    have : ls'.length - 1 = 0 := by omega
                    rw [this]; exact h1
                  · rw [if_neg hi0] at h1
                    rw [hl']; exact h1
                have HLast := hide hlast
                clear hown' hlast
                go_wp2
                go_ret
                refine ⟨.slice (some ⟨gb, 0, none⟩) n c20, rfl, hfin, .inr ⟨c, ls', gb, c20, HPe.out, by rw [hl'], by omega, by omega, HLast.out, Rw.ofOwn (base := wq.heap.size) (e := 115) (by rw [hl']; exact HO'.out), fun y hy => (HChs.out y hy).below hfin (Nat.le_refl _)⟩⟩
          · have tz : decide (ck = c0) = false := decide_eq_false hz
            have HZ := hide hz
            obtain ⟨x, hx⟩ : ∃ x, x = nxt L ck := ⟨_, rfl⟩
            obtain ⟨v1, hv1⟩ : ∃ v1, v1 = (g x).getD (.slice none 0 0) := ⟨_, rfl⟩
            have hch1 : ChOk w v1 := by rw [hv1]; exact ChOk.ofMap HG.out x
            have hxok : x.ok := by rw [hx]; exact nxt_ok HOk.out ck
            have hlkB : (Instr.lookup 94 (.map (some bB)) (.agg #[.int .i64 ck.f, .int .i64 ck.t, .bool ck.m]) false).run Try.prog wR.drew = .ok (cv x) wR.drew := by
              rw [hx, ← BF_get]; exact ((HMB.out.below hbr).block (w' := wR.drew) rfl).look Try.underlying94 (zero99 _) HLp.out.ok
            have hlkC : (Instr.lookup 95 (.map (some bC)) (.agg #[.int .i64 x.f, .int .i64 x.t, .bool x.m]) false).run Try.prog wR.drew = .ok v1 wR.drew := by
              rw [hv1]; exact ((HMC.out.below hbr).block (w' := wR.drew) rfl).look Try.underlying95 (zero111 _) hxok
            obtain ⟨a1, n1', c1, hvf⟩ := hch1.form
            have hv1' : Value.slice a1 n1' c1 = (g x).getD (.slice none 0 0) := by rw [← hvf]; exact hv1
            clear hv1
            subst hvf
            have HCh1 := hide hch1
            have HXok := hide hxok
            have HX := hide hx
            have hmx : mu L x < mu L ck := by rw [hx]; exact mu_next HCh.out hz
            have hlb : ls.length + 1 ≤ 4098 := by omega
            have hne : ∀ g', u20.ownBlock = some g' → g' ≠ gp := by
              intro g' hg' e1
              rcases HOwn.out.2 with ⟨e2, _⟩ | ⟨g2', cap, cur, e2, _, hgg, _⟩
              · rw [e2] at hg'; simp [Value.ownBlock] at hg'
              · rw [e2] at hg'; simp [Value.ownBlock] at hg'; subst hg'; subst e1; rw [HBk.out] at hgg; simp at hgg
            have HNe := hide hne
            have hgl : gp < wR.heap.size := (Array.getElem?_eq_some_iff.1 HBk.out).1
            obtain ⟨i1, hi1, hy0, hy1, hy2⟩ := info_parts info115
            have HV1 := hide hv1'
            clear hv1' hch1 hxok hz hx hne
            go_upto_region 27 with fail
            have hrow : ∀ k, k < wq.heap.size → some k ≠ u20.ownBlock := fun k hk e1 => by have := (HOwn.out.lt k e1.symm).1; omega
            have hszw : wq.heap.size ≤ wR.heap.size := hbel.size
            have HMk : Hid (∀ W, Sq wR u20.ownBlock W → (Sq wR u20.ownBlock W ∧ W.cell? ⟨w.heap.size, 0, none⟩ = some (.map (some bB)) ∧ W.cell? ⟨w.heap.size, 1, none⟩ = some (.map (some bC)) ∧ W.cell? ⟨gp, 0, none⟩ = some (.int .i64 ck.f) ∧ W.cell? ⟨gp, 1, none⟩ = some (.int .i64 ck.t) ∧ W.cell? ⟨gp, 2, none⟩ = some (.bool ck.m) ∧
                (Instr.lookup 94 (.map (some bB)) (.agg #[.int .i64 ck.f, .int .i64 ck.t, .bool ck.m]) false).run Try.prog W = .ok (cv x) W ∧ (Instr.lookup 95 (.map (some bC)) (.agg #[.int .i64 x.f, .int .i64 x.t, .bool x.m]) false).run Try.prog W = .ok (.slice a1 n1' c1) W)) := by
              intro W hW
              have hgB : W.heap[gp]? = wR.heap[gp]? := hW.1 gp hgl (fun e1 => HNe.out gp e1.symm rfl)
              obtain ⟨_, k0, k1, k2, _, _, _⟩ := blk3 (hgB.trans HBk.out)
              have hbx : W.heap[w.heap.size]? = some (.cells #[.map (some bB), .map (some bC)] 97 (0, 0)) := by
                rw [hW.1 w.heap.size (by omega) (hrow _ (by omega)), hbel.block _ (by omega), HSte.out.bel.block _ (by omega)]
                exact HBox.out
              refine ⟨hW, ?_, ?_, k0, k1, k2, ?_, ?_⟩
              · rw [cell_of_row W w.heap.size 0 _ 97 (0, 0) hbx]; rfl
              · rw [cell_of_row W w.heap.size 1 _ 97 (0, 0) hbx]; rfl
              · have hB := (HMB.out.below hbr).lt
                have hB0 := HMB.out.lt
                rw [HX.out, ← BF_get]
                exact ((HMB.out.below hbr).block (w' := W) (hW.1 _ hB (hrow _ (by omega)))).look Try.underlying94 (zero99 _) HLp.out.ok
              · have hB := (HMC.out.below hbr).lt
                have hB0 := HMC.out.lt
                rw [HV1.out]
                exact ((HMC.out.below hbr).block (w' := W) (hW.1 _ hB (hrow _ (by omega)))).look Try.underlying95 (zero111 _) HXok.out
            clear hlkB hlkC hrow
            go_region_held2 (fun W => Sq wR u20.ownBlock W ∧ W.cell? ⟨w.heap.size, 0, none⟩ = some (.map (some bB)) ∧ W.cell? ⟨w.heap.size, 1, none⟩ = some (.map (some bC)) ∧ W.cell? ⟨gp, 0, none⟩ = some (.int .i64 ck.f) ∧ W.cell? ⟨gp, 1, none⟩ = some (.int .i64 ck.t) ∧ W.cell? ⟨gp, 2, none⟩ = some (.bool ck.m) ∧
                (Instr.lookup 94 (.map (some bB)) (.agg #[.int .i64 ck.f, .int .i64 ck.t, .bool ck.m]) false).run Try.prog W = .ok (cv x) W ∧ (Instr.lookup 95 (.map (some bC)) (.agg #[.int .i64 x.f, .int .i64 x.t, .bool x.m]) false).run Try.prog W = .ok (.slice a1 n1' c1) W) (first | exact HMk.out _ (Sq.drew _ _) | exact HMk.out _ (Sq.alloc _ _ _) | exact HMk.out _ (Sq.app hgrow2)) ((refine step_append_own rfl (.tmp 87) (.tmp 100) 112 rfl wq.heap.size 115 i1 zl 4 48 Try.underlying112 hi1 hy0 hy1 hy2 rfl (by decide) _ _ _ rfl (World.ownsRow.alloc (w := wR.drew) HOwn.out _) ⟨wR.heap.size, 0, none⟩ 1 1 (lc (x, .slice a1 n1' c1)) rfl rfl (new_row (w := wR.drew) rfl _ _) (by intro u hu; simp [lc] at hu; rcases hu with rfl | rfl | rfl | rfl <;> rfl) (by unfold maxLen; omega) (by omega) (by simp; have := hbel.size; omega) ?_; intro v2 w2 hown2 hgrow2))
            all_goals
              have ho := hown2
              have hbc : Below wq.heap.size wq w2 := ((hbel.drew).alloc hbel.size _).grown hgrow2 (by simp; have := hbel.size; omega) (fun j hj => (HOwn.out.lt j hj).1)
              have hbk : w2.heap[gp]? = wR.heap[gp]? := by
                rw [hgrow2.block gp (by simp; omega) (fun e1 => HNe.out gp e1.symm rfl)]
                exact heap_alloc_old _ _ hgl
              clear hown2 hgrow2
              have HO := hide ho
              have hbk' := hbk.trans HBk.out
              obtain ⟨_, g0, g1, g2, _, _, _⟩ := blk3 hbk'
              have z0 := (hbc.cell (p := ⟨w.heap.size, 0, none⟩) (by show w.heap.size < wq.heap.size; omega)).trans hz0
              have hbcw : Below w.heap.size w w2 := hbw.trans (hbc.mono hbw.size)
              have hlkD : (Instr.lookup 94 (.map (some bB)) (.agg #[.int .i64 ck.f, .int .i64 ck.t, .bool ck.m]) false).run Try.prog (w2.alloc (.cells #[.int .i64 ck.f, .int .i64 ck.t, .bool ck.m] 99)) = .ok (cv x) (w2.alloc (.cells #[.int .i64 ck.f, .int .i64 ck.t, .bool ck.m] 99)) := by
                rw [HX.out, ← BF_get]; exact (HMB.out.below (hbcw.alloc hbcw.size _)).look Try.underlying94 (zero99 _) HLp.out.ok
              have hglc : gp < w2.heap.size := (Array.getElem?_eq_some_iff.1 hbk').1
              have hszc : w.heap.size < w2.heap.size := by have := hbc.size; omega
              clear ho hbk hbk' hi1 hy0 hy1 hy2
              go_wp2
              go_roundg (mu L x)
              case measure => rw [HGM.out]; exact hmx
              case rel =>
                refine ⟨x, ls ++ [(x, .slice a1 n1' c1)], _, rfl, ⟨HXok.out, by simp; omega, by simp, ?_, ?_, ?_, rfl, ?_, heap_alloc_new _ _, hbc.alloc hbc.size _⟩⟩
                · rw [← HLp.out.first]
                  have := HLp.out.pos
                  cases ls with
                  | nil => simp at this
                  | cons y l => rfl
                · intro y hy
                  rcases List.mem_append.1 hy with hy | hy
                  · exact HLp.out.chs y hy
                  · simp at hy; rw [hy]; exact HCh1.out
                · rw [List.length_append, List.flatMap_append]
                  exact World.ownsRow.alloc (by simpa using HO.out) _
                · exact hbc.size

end Go.Proofs.Qxb6600021a
