/-
  Rows of elements of several cells; edges and marks; their clones (39, 40).
-/
import Derived.Test.Qxb6600021aF0
import Derived.Deep.MidRow
namespace Go.Proofs.Qxb6600021a
open Go.RowKit
set_option linter.unusedVariables false

/-! ### several cells written one after the other -/
def lsets (cs : List Value) : Nat → List Value → List Value
  | _, [] => cs
  | i, v :: vs => lsets (cs.set i v) (i + 1) vs

theorem lsets_length : ∀ (vs cs : List Value) (i : Nat), (lsets cs i vs).length = cs.length
  | [], cs, i => rfl
  | v :: vs, cs, i => by rw [lsets, lsets_length vs, List.length_set]

theorem lsets_get : ∀ (vs cs : List Value) (i j : Nat), (lsets cs i vs)[j]? = if i ≤ j ∧ j < i + vs.length ∧ j < cs.length then vs[j - i]? else cs[j]?
  | [], cs, i, j => by
    rw [if_neg (by simp; omega)]; rfl
  | v :: vs, cs, i, j => by
    rw [lsets, lsets_get vs, List.length_set, List.getElem?_set]
    by_cases h1 : i = j
    · subst h1
      rw [if_neg (by omega), if_pos rfl]
      by_cases h2 : i < cs.length
      · rw [if_pos h2, if_pos (by simp; omega), Nat.sub_self]; rfl
      · rw [if_neg h2, if_neg (by omega), List.getElem?_eq_none (by omega)]
    · rw [if_neg h1]
      by_cases h2 : i + 1 ≤ j ∧ j < i + 1 + vs.length ∧ j < cs.length
      · rw [if_pos h2, if_pos (by simp; omega), show j - i = (j - (i + 1)) + 1 by omega]; rfl
      · rw [if_neg h2, if_neg (by simp; omega)]

theorem own_wsets {base e sz g n cap : Nat} : ∀ (vs : List Value) {wr : World} {cs : List Value} (i : Nat), wr.ownsRow base e sz (.slice (some ⟨g, 0, none⟩) n cap) n cs → (wr.setCells g i vs).ownsRow base e sz (.slice (some ⟨g, 0, none⟩) n cap) n (lsets cs i vs)
  | [], wr, cs, i, h => h
  | v :: vs, wr, cs, i, h => own_wsets vs (i + 1) (h.stored i v).1

theorem below_wsets {B g : Nat} {w : World} (hg : B ≤ g) : ∀ (vs : List Value) {wr : World} (i : Nat), Below B w wr → Below B w (wr.setCells g i vs)
  | [], wr, i, h => h
  | v :: vs, wr, i, h => below_wsets hg vs (i + 1) (h.setCell (p := ⟨g, i, none⟩) hg v)

/-! ### a list of elements of sz cells each -/
theorem flat_length {α : Type} {c : α → List Value} {sz : Nat} (hc : ∀ a, (c a).length = sz) : ∀ L : List α, (L.flatMap c).length = L.length * sz
  | [] => by simp
  | a :: L => by rw [List.flatMap_cons, List.length_append, hc, flat_length hc L, List.length_cons, Nat.succ_mul]; omega

theorem flat_at {α : Type} {c : α → List Value} {sz : Nat} (hc : ∀ a, (c a).length = sz) (d : α) : ∀ (L : List α) (k j : Nat), k < L.length → j < sz → (L.flatMap c)[k * sz + j]? = (c (L.getD k d))[j]?
  | [], k, j, hk, _ => by simp at hk
  | a :: L, 0, j, _, hj => by
    rw [List.flatMap_cons, List.getElem?_append_left (by rw [hc]; omega)]
    simp
  | a :: L, k + 1, j, hk, hj => by
    rw [List.flatMap_cons, List.getElem?_append_right (by rw [hc, Nat.succ_mul]; omega), hc, show (k + 1) * sz + j - sz = k * sz + j by rw [Nat.succ_mul]; omega, flat_at hc d L k j (by simpa using hk) hj]
    simp

theorem row_step {α : Type} {c : α → List Value} {sz : Nat} (hc : ∀ a, (c a).length = sz) (d : α) {L : List α} {cs : List Value} {k n : Nat} (hL : L.length = n) (hcs : cs.length = n * sz) (hk : k < n)
    (hall : ∀ j, j < k * sz → cs[j]? = (L.flatMap c)[j]?) : ∀ j, j < (k + 1) * sz → (lsets cs (k * sz) (c (L.getD k d)))[j]? = (L.flatMap c)[j]? := by
  intro j hj
  rw [lsets_get, hc]
  have hle : (k + 1) * sz ≤ n * sz := Nat.mul_le_mul_right _ (by omega)
  rw [Nat.succ_mul] at hj hle
  by_cases h : k * sz ≤ j
  · rw [if_pos ⟨h, by omega, by omega⟩]
    have := flat_at hc d L k (j - k * sz) (by omega) (by omega)
    rw [show k * sz + (j - k * sz) = j by omega] at this
    exact this.symm
  · rw [if_neg (by omega)]
    exact hall j (by omega)

theorem row_done {α : Type} {c : α → List Value} {sz : Nat} (hc : ∀ a, (c a).length = sz) {L : List α} {wr : World} {base e g n cap k : Nat} {cs : List Value} (hown : wr.ownsRow base e sz (.slice (some ⟨g, 0, none⟩) n cap) n cs) (hL : L.length = n) (hk : ¬ k < n)
    (hall : ∀ j, j < k * sz → cs[j]? = (L.flatMap c)[j]?) : wr.ownsRow base e sz (.slice (some ⟨g, 0, none⟩) n cap) n (L.flatMap c) := by
  have hle : n * sz ≤ k * sz := Nat.mul_le_mul_right _ (by omega)
  have e : cs = L.flatMap c := by
    apply List.ext_getElem?
    intro j
    by_cases hj : j < n * sz
    · exact hall j (by omega)
    · rw [List.getElem?_eq_none (by rw [hown.1]; omega), List.getElem?_eq_none (by rw [flat_length hc, hL]; omega)]
  subst e
  exact hown

/-- A slice of such elements. -/
def Rw {α : Type} (c : α → List Value) (sz : Nat) (w : World) (v : Value) (L : List α) : Prop := Rd w v L.length sz (L.flatMap c)

theorem Rw.below {α : Type} {c : α → List Value} {sz : Nat} {w w' : World} {v : Value} {L : List α} (h : Rw c sz w v L) (hb : Below w.heap.size w w') : Rw c sz w' v L := Rd.below h hb

theorem Rw.form {α : Type} {c : α → List Value} {sz : Nat} (hc : ∀ a, (c a).length = sz) (d : α) {w : World} {v : Value} {L : List α} (h : Rw c sz w v L) : ∃ a n cap, v = .slice a n cap ∧ n = L.length ∧ (a = none → n = 0 ∧ cap = 0) ∧ n ≤ maxLen ∧
    (0 < n → ∃ b off, a = some ⟨b, off, none⟩ ∧ b < w.heap.size ∧ ∀ k, k < n → ∀ j, j < sz → w.cell? ⟨b, off + (k * sz + j), none⟩ = (c (L.getD k d))[j]?) := by
  obtain ⟨a, cap, rfl, h1, h2, h3, h4, h5⟩ := h
  refine ⟨a, L.length, cap, rfl, rfl, fun e => ?_, Nat.le_trans h1 h2, fun hn => ?_⟩
  · have := h3 e; exact ⟨by omega, this⟩
  · obtain ⟨b, off, rfl, hlt, hcc⟩ := h5 hn
    refine ⟨b, off, rfl, hlt, fun k hk j hj => ?_⟩
    have hle : (k + 1) * sz ≤ L.length * sz := Nat.mul_le_mul_right _ (by omega)
    rw [Nat.succ_mul] at hle
    rw [hcc (k * sz + j) (by omega), flat_at hc d L k j hk hj]

theorem Rw.ofOwn {α : Type} {c : α → List Value} {sz : Nat} {w : World} {base e : Nat} {v : Value} {L : List α} (h : w.ownsRow base e sz v L.length (L.flatMap c)) : Rw c sz w v L := by
  rcases h.2 with ⟨rfl, hn⟩ | ⟨g, cap, cur, rfl, _⟩
  · have hL : L = [] := List.eq_nil_of_length_eq_zero hn
    subst hL
    exact Rd.nil _ sz
  · exact Rd.own h

/-- The cells of element k of the call's own row. -/
theorem own_cells {wr : World} {base e sz g n cap : Nat} {cs : List Value} (hown : wr.ownsRow base e sz (.slice (some ⟨g, 0, none⟩) n cap) n cs) (k : Nat) (hk : k < n) (j : Nat) (hj : j < sz) : ∃ v, wr.cell? ⟨g, k * sz + j, none⟩ = some v := by
  have hle : (k + 1) * sz ≤ n * sz := Nat.mul_le_mul_right _ (by omega)
  rw [Nat.succ_mul] at hle
  rw [hown.cellAt _ (by omega)]
  have := hown.1
  exact ⟨_, List.getElem?_eq_getElem (by omega)⟩

theorem own_there {wr : World} {base e sz g n cap : Nat} {cs : List Value} (hown : wr.ownsRow base e sz (.slice (some ⟨g, 0, none⟩) n cap) n cs) (k : Nat) (hk : k < n) : wr.there g (k * sz) sz := fun j hj => by
  obtain ⟨v, hv⟩ := own_cells hown k hk j hj
  exact ⟨by rw [hv]; rfl, hown.frozenAt _⟩

theorem size91 : (Try.prog.info? 91).map (·.size) = some 6 := by kernel_rfl
theorem size93 : (Try.prog.info? 93).map (·.size) = some 4 := by kernel_rfl

/-! ### edges and marks -/
abbrev Edge := Cel × Cel
abbrev Mark := Cel × Int
def ec (e : Edge) : List Value := [.int .i64 e.1.f, .int .i64 e.1.t, .bool e.1.m, .int .i64 e.2.f, .int .i64 e.2.t, .bool e.2.m]
def mc (e : Mark) : List Value := [.int .i64 e.1.f, .int .i64 e.1.t, .bool e.1.m, .int .i64 e.2]
theorem ec_length (e : Edge) : (ec e).length = 6 := rfl
theorem mc_length (e : Mark) : (mc e).length = 4 := rfl
def ke (L : List Edge) (i : Nat) : Cel := (L.getD i (c0, c0)).1
def bk (L : List Edge) (i : Nat) : Cel := (L.getD i (c0, c0)).2
def ma (L : List Mark) (i : Nat) : Cel := (L.getD i (c0, 0)).1
def mt (L : List Mark) (i : Nat) : Int := (L.getD i (c0, 0)).2
abbrev Egs := Rw ec 6
abbrev Mks := Rw mc 4

theorem Egs.form {w : World} {v : Value} {L : List Edge} (h : Egs w v L) : ∃ a n cap, v = .slice a n cap ∧ n = L.length ∧ (a = none → n = 0 ∧ cap = 0) ∧ n ≤ maxLen ∧
    (0 < n → ∃ b off, a = some ⟨b, off, none⟩ ∧ b < w.heap.size ∧ ∀ k, k < n →
      w.cell? ⟨b, off + k * 6, none⟩ = some (.int .i64 (ke L k).f) ∧ w.cell? ⟨b, off + k * 6 + 1, none⟩ = some (.int .i64 (ke L k).t) ∧ w.cell? ⟨b, off + k * 6 + 2, none⟩ = some (.bool (ke L k).m) ∧
      w.cell? ⟨b, off + k * 6 + 3, none⟩ = some (.int .i64 (bk L k).f) ∧ w.cell? ⟨b, off + k * 6 + 4, none⟩ = some (.int .i64 (bk L k).t) ∧ w.cell? ⟨b, off + k * 6 + 5, none⟩ = some (.bool (bk L k).m)) := by
  obtain ⟨a, n, cap, h1, h2, h3, h4, h5⟩ := Rw.form ec_length (c0, c0) h
  refine ⟨a, n, cap, h1, h2, h3, h4, fun hn => ?_⟩
  obtain ⟨b, off, ha, hb, hc⟩ := h5 hn
  refine ⟨b, off, ha, hb, fun k hk => ⟨?_, ?_, ?_, ?_, ?_, ?_⟩⟩
  · exact hc k hk 0 (by omega)
  · exact hc k hk 1 (by omega)
  · exact hc k hk 2 (by omega)
  · exact hc k hk 3 (by omega)
  · exact hc k hk 4 (by omega)
  · exact hc k hk 5 (by omega)

theorem Mks.form {w : World} {v : Value} {L : List Mark} (h : Mks w v L) : ∃ a n cap, v = .slice a n cap ∧ n = L.length ∧ (a = none → n = 0 ∧ cap = 0) ∧ n ≤ maxLen ∧
    (0 < n → ∃ b off, a = some ⟨b, off, none⟩ ∧ b < w.heap.size ∧ ∀ k, k < n →
      w.cell? ⟨b, off + k * 4, none⟩ = some (.int .i64 (ma L k).f) ∧ w.cell? ⟨b, off + k * 4 + 1, none⟩ = some (.int .i64 (ma L k).t) ∧ w.cell? ⟨b, off + k * 4 + 2, none⟩ = some (.bool (ma L k).m) ∧
      w.cell? ⟨b, off + k * 4 + 3, none⟩ = some (.int .i64 (mt L k))) := by
  obtain ⟨a, n, cap, h1, h2, h3, h4, h5⟩ := Rw.form mc_length (c0, 0) h
  refine ⟨a, n, cap, h1, h2, h3, h4, fun hn => ?_⟩
  obtain ⟨b, off, ha, hb, hc⟩ := h5 hn
  refine ⟨b, off, ha, hb, fun k hk => ⟨?_, ?_, ?_, ?_⟩⟩
  · exact hc k hk 0 (by omega)
  · exact hc k hk 1 (by omega)
  · exact hc k hk 2 (by omega)
  · exact hc k hk 3 (by omega)

abbrev z6 : Value := .agg #[.int .i64 0, .int .i64 0, .bool false, .int .i64 0, .int .i64 0, .bool false]
abbrev z4 : Value := .agg #[.int .i64 0, .int .i64 0, .bool false, .int .i64 0]
theorem info91 : (Try.prog.info? 91).map (fun i => (i.zero, i.size, i.bytes)) = some (some z6, 6, 48) := by kernel_rfl
theorem info93 : (Try.prog.info? 93).map (fun i => (i.zero, i.size, i.bytes)) = some (some z4, 4, 32) := by kernel_rfl
theorem q55 (w : World) (a : Option Addr) (n c n' c' : Nat) : (binOp .eql 55 (.slice a n c) (.slice none n' c')).run Try.prog w = .ok (.bool a.isNone) w := Lib.run_eql_slice_nil w _ _ a n c n' c' Try.underlying55
theorem q56 (w : World) (a : Option Addr) (n c n' c' : Nat) : (binOp .eql 56 (.slice a n c) (.slice none n' c')).run Try.prog w = .ok (.bool a.isNone) w := Lib.run_eql_slice_nil w _ _ a n c n' c' Try.underlying56

set_option maxHeartbeats 400000 in
theorem clone39_some (x : Addr) (n c : Nat) (L : List Edge) (w : World) (hL : L.length = n) (h1 : n ≤ 1048576)
    (hf : 0 < n → ∃ b off, some x = some (⟨b, off, none⟩ : Addr) ∧ b < w.heap.size ∧ ∀ k, k < n → w.cell? ⟨b, off + k * 6, none⟩ = some (.int .i64 (ke L k).f) ∧ w.cell? ⟨b, off + k * 6 + 1, none⟩ = some (.int .i64 (ke L k).t) ∧ w.cell? ⟨b, off + k * 6 + 2, none⟩ = some (.bool (ke L k).m) ∧ w.cell? ⟨b, off + k * 6 + 3, none⟩ = some (.int .i64 (bk L k).f) ∧ w.cell? ⟨b, off + k * 6 + 4, none⟩ = some (.int .i64 (bk L k).t) ∧ w.cell? ⟨b, off + k * 6 + 5, none⟩ = some (.bool (bk L k).m)) :
    Calls Try.prog 39 #[.slice (some x) n c] w fun e w' => ∃ v, e = .returned v ∧ Egs w' v L ∧ Below w.heap.size w w' := by
  obtain ⟨i0, hi, hz0, hz1, hz2⟩ := info_parts info91
  have hq := q55
  have HF : Hid _ := hf
  clear hf
  go_enter Try.func39, Try.ntmps39
  go_wp2_with (at_make; refine wpList_make_full _ rfl _ _ 55 rfl w.heap.size 91 i0 z6 6 Try.underlying55 hi hz0 hz1 _ _ _ _ n rfl rfl rfl rfl ?b2 ?b3 (Nat.le_refl _) ?_)
  case b2 => rw [hz2]; omega
  case b3 => unfold maxLen; omega
  intro w0 hown0 hgrow0
  clear hq hi hz0 hz1 hz2
  go_wp2
  go_loopw [4] (fun i wr => ∃ k : Nat, k ≤ n ∧ i = .int .i64 k ∧ Below w.heap.size w wr ∧ ∃ cs, wr.ownsRow w.heap.size 91 6 (.slice (some ⟨w.heap.size, 0, none⟩) n n) n cs ∧ ∀ j, j < k * 6 → cs[j]? = (L.flatMap ec)[j]?) (fun i _ => n - (intOf i).toNat)
  case atStart => exact ⟨0, by omega, rfl, (Below.refl _ _).grown hgrow0 (Nat.le_refl _) (fun k h => by cases h), _, hown0, fun j h => by omega⟩
  case round =>
    obtain ⟨k, hk, rfl, hbel, cs, hown, hall⟩ := hrel
    have HA : Hid (∀ j, j < k * 6 → cs[j]? = (L.flatMap ec)[j]?) := hall
    clear hall
    by_cases hlt : k < n
    · obtain ⟨b, off, hx, hb, hc⟩ := HF.out (by omega)
      obtain rfl := Option.some.inj hx
      obtain ⟨e0, e1, e2, e3, e4, e5⟩ := hc k hlt
      have d0 := (hbel.cell (p := ⟨b, off + k * 6, none⟩) (by exact hb)).trans e0
      have d1 := (hbel.cell (p := ⟨b, off + k * 6 + 1, none⟩) (by exact hb)).trans e1
      have d2 := (hbel.cell (p := ⟨b, off + k * 6 + 2, none⟩) (by exact hb)).trans e2
      have d3 := (hbel.cell (p := ⟨b, off + k * 6 + 3, none⟩) (by exact hb)).trans e3
      have d4 := (hbel.cell (p := ⟨b, off + k * 6 + 4, none⟩) (by exact hb)).trans e4
      have d5 := (hbel.cell (p := ⟨b, off + k * 6 + 5, none⟩) (by exact hb)).trans e5
      obtain ⟨v0, o0⟩ := own_cells hown k hlt 0 (by omega)
      obtain ⟨v1, o1⟩ := own_cells hown k hlt 1 (by omega)
      obtain ⟨v2, o2⟩ := own_cells hown k hlt 2 (by omega)
      obtain ⟨v3, o3⟩ := own_cells hown k hlt 3 (by omega)
      obtain ⟨v4, o4⟩ := own_cells hown k hlt 4 (by omega)
      obtain ⟨v5, o5⟩ := own_cells hown k hlt 5 (by omega)
      rw [Nat.add_zero] at o0
      have f0 := hown.frozenAt (k * 6)
      have f1 := hown.frozenAt (k * 6 + 1)
      have f2 := hown.frozenAt (k * 6 + 2)
      have f3 := hown.frozenAt (k * 6 + 3)
      have f4 := hown.frozenAt (k * 6 + 4)
      have f5 := hown.frozenAt (k * 6 + 5)
      clear hc hx e0 e1 e2 e3 e4 e5
      set_option maxRecDepth 100000 in go_wp2
      go_roundw
      case rel => exact ⟨k + 1, by omega, by go_num, below_wsets (Nat.le_refl _) (ec (L.getD k (c0, c0))) (k * 6) hbel, _, own_wsets (ec (L.getD k (c0, c0))) (k * 6) hown, row_step ec_length (c0, c0) hL hown.1 hlt HA.out⟩
      case measure => simp [intOf]; omega
    · go_wp2
      go_ret
      refine ⟨_, rfl, Rw.ofOwn (base := w.heap.size) (e := 91) ?_, hbel⟩
      rw [hL]
      exact row_done ec_length hown hL hlt HA.out

set_option maxHeartbeats 400000 in
theorem clone39_nil (w : World) : Calls Try.prog 39 #[.slice none 0 0] w fun e w' => e = .returned (.slice none 0 0) ∧ w' = w := by
  have hq := q55
  go_enter Try.func39, Try.ntmps39
  go_wp2
  go_ret
  exact ⟨rfl, rfl⟩

theorem clone39 {v : Value} {L : List Edge} (w : World) (hs : L.length ≤ 1048576) (h : Egs w v L) :
    Calls Try.prog 39 #[v] w fun e w' => ∃ v', e = .returned v' ∧ Egs w' v' L ∧ Below w.heap.size w w' := by
  obtain ⟨a, n, c, rfl, hn, hnil, hc, hf⟩ := Egs.form h
  cases a with
  | none =>
    obtain ⟨rfl, rfl⟩ := hnil rfl
    have e : L = [] := List.eq_nil_of_length_eq_zero hn.symm
    subst e
    exact (clone39_nil w).mono fun e w' ⟨he, hw⟩ => ⟨_, he, Rd.nil _ _, hw ▸ Below.refl _ _⟩
  | some x =>
    subst hn
    exact clone39_some x _ c L w rfl hs hf

set_option maxHeartbeats 400000 in
theorem clone40_some (x : Addr) (n c : Nat) (L : List Mark) (w : World) (hL : L.length = n) (h1 : n ≤ 1048576)
    (hf : 0 < n → ∃ b off, some x = some (⟨b, off, none⟩ : Addr) ∧ b < w.heap.size ∧ ∀ k, k < n → w.cell? ⟨b, off + k * 4, none⟩ = some (.int .i64 (ma L k).f) ∧ w.cell? ⟨b, off + k * 4 + 1, none⟩ = some (.int .i64 (ma L k).t) ∧ w.cell? ⟨b, off + k * 4 + 2, none⟩ = some (.bool (ma L k).m) ∧ w.cell? ⟨b, off + k * 4 + 3, none⟩ = some (.int .i64 (mt L k))) :
    Calls Try.prog 40 #[.slice (some x) n c] w fun e w' => ∃ v, e = .returned v ∧ Mks w' v L ∧ Below w.heap.size w w' := by
  obtain ⟨i0, hi, hz0, hz1, hz2⟩ := info_parts info93
  have hq := q56
  have HF : Hid _ := hf
  clear hf
  go_enter Try.func40, Try.ntmps40
  go_wp2_with (at_make; refine wpList_make_full _ rfl _ _ 56 rfl w.heap.size 93 i0 z4 4 Try.underlying56 hi hz0 hz1 _ _ _ _ n rfl rfl rfl rfl ?b2 ?b3 (Nat.le_refl _) ?_)
  case b2 => rw [hz2]; omega
  case b3 => unfold maxLen; omega
  intro w0 hown0 hgrow0
  clear hq hi hz0 hz1 hz2
  go_wp2
  go_loopw [4] (fun i wr => ∃ k : Nat, k ≤ n ∧ i = .int .i64 k ∧ Below w.heap.size w wr ∧ ∃ cs, wr.ownsRow w.heap.size 93 4 (.slice (some ⟨w.heap.size, 0, none⟩) n n) n cs ∧ ∀ j, j < k * 4 → cs[j]? = (L.flatMap mc)[j]?) (fun i _ => n - (intOf i).toNat)
  case atStart => exact ⟨0, by omega, rfl, (Below.refl _ _).grown hgrow0 (Nat.le_refl _) (fun k h => by cases h), _, hown0, fun j h => by omega⟩
  case round =>
    obtain ⟨k, hk, rfl, hbel, cs, hown, hall⟩ := hrel
    have HA : Hid (∀ j, j < k * 4 → cs[j]? = (L.flatMap mc)[j]?) := hall
    clear hall
    by_cases hlt : k < n
    · obtain ⟨b, off, hx, hb, hc⟩ := HF.out (by omega)
      obtain rfl := Option.some.inj hx
      obtain ⟨e0, e1, e2, e3⟩ := hc k hlt
      have d0 := (hbel.cell (p := ⟨b, off + k * 4, none⟩) (by exact hb)).trans e0
      have d1 := (hbel.cell (p := ⟨b, off + k * 4 + 1, none⟩) (by exact hb)).trans e1
      have d2 := (hbel.cell (p := ⟨b, off + k * 4 + 2, none⟩) (by exact hb)).trans e2
      have d3 := (hbel.cell (p := ⟨b, off + k * 4 + 3, none⟩) (by exact hb)).trans e3
      obtain ⟨v0, o0⟩ := own_cells hown k hlt 0 (by omega)
      obtain ⟨v1, o1⟩ := own_cells hown k hlt 1 (by omega)
      obtain ⟨v2, o2⟩ := own_cells hown k hlt 2 (by omega)
      obtain ⟨v3, o3⟩ := own_cells hown k hlt 3 (by omega)
      rw [Nat.add_zero] at o0
      have f0 := hown.frozenAt (k * 4)
      have f1 := hown.frozenAt (k * 4 + 1)
      have f2 := hown.frozenAt (k * 4 + 2)
      have f3 := hown.frozenAt (k * 4 + 3)
      clear hc hx e0 e1 e2 e3
      set_option maxRecDepth 100000 in go_wp2
      go_roundw
      case rel => exact ⟨k + 1, by omega, by go_num, below_wsets (Nat.le_refl _) (mc (L.getD k (c0, 0))) (k * 4) hbel, _, own_wsets (mc (L.getD k (c0, 0))) (k * 4) hown, row_step mc_length (c0, 0) hL hown.1 hlt HA.out⟩
      case measure => simp [intOf]; omega
    · go_wp2
      go_ret
      refine ⟨_, rfl, Rw.ofOwn (base := w.heap.size) (e := 93) ?_, hbel⟩
      rw [hL]
      exact row_done mc_length hown hL hlt HA.out

set_option maxHeartbeats 400000 in
theorem clone40_nil (w : World) : Calls Try.prog 40 #[.slice none 0 0] w fun e w' => e = .returned (.slice none 0 0) ∧ w' = w := by
  have hq := q56
  go_enter Try.func40, Try.ntmps40
  go_wp2
  go_ret
  exact ⟨rfl, rfl⟩

theorem clone40 {v : Value} {L : List Mark} (w : World) (hs : L.length ≤ 1048576) (h : Mks w v L) :
    Calls Try.prog 40 #[v] w fun e w' => ∃ v', e = .returned v' ∧ Mks w' v' L ∧ Below w.heap.size w w' := by
  obtain ⟨a, n, c, rfl, hn, hnil, hc, hf⟩ := Mks.form h
  cases a with
  | none =>
    obtain ⟨rfl, rfl⟩ := hnil rfl
    have e : L = [] := List.eq_nil_of_length_eq_zero hn.symm
    subst e
    exact (clone40_nil w).mono fun e w' ⟨he, hw⟩ => ⟨_, he, Rd.nil _ _, hw ▸ Below.refl _ _⟩
  | some x =>
    subst hn
    exact clone40_some x _ c L w rfl hs hf

end Go.Proofs.Qxb6600021a
