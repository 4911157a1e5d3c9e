/-
  The scripts' small functions: cloneU64 (26), cloneInts (27), scriptLen (23), indexesInRange (24).
-/
import Derived.Test.Qxb6600021aR0
namespace Go.Proofs.Qxb6600021a
open Go.RowKit
set_option linter.unusedVariables false

/-- The slice value v reads as the numbers ns of kind k. -/
def Ns (k : IntKind) (w : World) (v : Value) (ns : List Int) : Prop := Rd w v ns.length 1 (ns.map (Value.int k))

theorem Ns.below {k : IntKind} {w w' : World} {v : Value} {ns : List Int} (h : Ns k w v ns) (hb : Below w.heap.size w w') : Ns k w' v ns := Rd.below h hb

theorem Ns.form {k : IntKind} {w : World} {v : Value} {ns : List Int} (h : Ns k w v ns) : ∃ a n c, v = .slice a n c ∧ n = ns.length ∧ (a = none → n = 0 ∧ c = 0) ∧ n ≤ maxLen ∧
    (0 < n → ∃ b off, a = some ⟨b, off, none⟩ ∧ b < w.heap.size ∧ ∀ i, i < n → w.cell? ⟨b, off + i, none⟩ = some (.int k (wd ns i))) := by
  obtain ⟨a, cap, rfl, h1, h2, h3, h4, h5⟩ := h
  refine ⟨a, ns.length, cap, rfl, rfl, fun e => ?_, Nat.le_trans h1 h2, fun hn => ?_⟩
  · have := h3 e; exact ⟨by omega, this⟩
  · obtain ⟨b, off, rfl, hlt, hc⟩ := h5 hn
    exact ⟨b, off, rfl, hlt, fun i hi => by rw [hc i (by omega)]; simp [wd, List.getD, hi]⟩

theorem Ns.ofOwn {k : IntKind} {w : World} {base e : Nat} {v : Value} {ns : List Int} (h : w.ownsRow base e 1 v ns.length (ns.map (Value.int k))) : Ns k w v ns := by
  rcases h.2 with ⟨rfl, hn⟩ | ⟨g, cap, cur, rfl, _⟩
  · have hL : ns = [] := List.eq_nil_of_length_eq_zero hn
    subst hL
    exact Rd.nil _ 1
  · exact Rd.own h

theorem one_cell {wr : World} {base e g n cap : Nat} {cs : List Value} (hown : wr.ownsRow base e 1 (.slice (some ⟨g, 0, none⟩) n cap) n cs) (k : Nat) (hk : k < n) : ∃ v0, wr.cell? ⟨g, k, none⟩ = some v0 := by
  rw [hown.cellAt _ (by omega)]
  have := hown.1
  exact ⟨_, List.getElem?_eq_getElem (by omega)⟩

theorem one_step {wr : World} {base e g n cap k : Nat} {kd : IntKind} {cs : List Value} {ns : List Int} (hown : wr.ownsRow base e 1 (.slice (some ⟨g, 0, none⟩) n cap) n cs) (hL : ns.length = n) (hlt : k < n)
    (hall : ∀ j, j < k → cs[j]? = (ns.map (Value.int kd))[j]?) :
    ∃ cs', (wr.setCell ⟨g, k, none⟩ (.int kd (wd ns k))).ownsRow base e 1 (.slice (some ⟨g, 0, none⟩) n cap) n cs' ∧ ∀ j, j < k + 1 → cs'[j]? = (ns.map (Value.int kd))[j]? := by
  have hl := hown.1
  refine ⟨_, (hown.stored k (.int kd (wd ns k))).1, fun j hj => ?_⟩
  rw [List.getElem?_set]
  by_cases e1 : k = j
  · subst e1
    rw [if_pos rfl, if_pos (by omega)]
    simp [wd, List.getD, show k < ns.length by omega]
  · rw [if_neg e1]
    exact hall j (by omega)

theorem one_done {wr : World} {base e g n cap k : Nat} {kd : IntKind} {cs : List Value} {ns : List Int} (hown : wr.ownsRow base e 1 (.slice (some ⟨g, 0, none⟩) n cap) n cs) (hL : ns.length = n) (hk : ¬ k < n)
    (hall : ∀ j, j < k → cs[j]? = (ns.map (Value.int kd))[j]?) : wr.ownsRow base e 1 (.slice (some ⟨g, 0, none⟩) n cap) n (ns.map (Value.int kd)) := by
  have e : cs = ns.map (Value.int kd) := by
    apply List.ext_getElem?
    intro j
    by_cases hj : j < n
    · exact hall j (by omega)
    · rw [List.getElem?_eq_none (by rw [hown.1]; omega), List.getElem?_eq_none (by simp; omega)]
  subst e
  exact hown

theorem info29 : (Try.prog.info? 29).map (fun i => (i.zero, i.size, i.bytes)) = some (some (.int .u64 0), 1, 8) := by kernel_rfl
theorem info3 : (Try.prog.info? 3).map (fun i => (i.zero, i.size, i.bytes)) = some (some (.int .i64 0), 1, 8) := by kernel_rfl

theorem q26 (w : World) (a : Option Addr) (n c n' c' : Nat) : (binOp .eql 38 (.slice a n c) (.slice none n' c')).run Try.prog w = .ok (.bool a.isNone) w := Lib.run_eql_slice_nil w _ _ a n c n' c' Try.underlying38

set_option maxHeartbeats 400000 in
theorem clone26_some (x : Addr) (n c : Nat) (ns : List Int) (w : World) (hL : ns.length = n) (h1 : n ≤ 1048576)
    (hf : 0 < n → ∃ b off, some x = some (⟨b, off, none⟩ : Addr) ∧ b < w.heap.size ∧ ∀ i, i < n → w.cell? ⟨b, off + i, none⟩ = some (.int .u64 (wd ns i))) :
    Calls Try.prog 26 #[.slice (some x) n c] w fun e w' => ∃ v, e = .returned v ∧ w'.ownsRow w.heap.size 29 1 v n (ns.map (Value.int .u64)) ∧ Below w.heap.size w w' := by
  obtain ⟨i0, hi, hz0, hz1, hz2⟩ := info_parts info29
  have hq := q26
  have HF : Hid _ := hf
  clear hf
  go_enter Try.func26, Try.ntmps26
  go_wp2_with (at_make; refine wpList_make_full _ rfl _ _ 38 rfl w.heap.size 29 i0 (.int .u64 0) 1 Try.underlying38 hi hz0 hz1 _ _ _ _ n rfl rfl rfl rfl ?b2 ?b3 (Nat.le_refl _) ?_)
  case b2 => rw [hz2]; omega
  case b3 => unfold maxLen; omega
  intro w0 hown0 hgrow0
  clear hq hi hz0 hz1 hz2
  go_wp2
  go_loopw [4] (fun i wr => ∃ k : Nat, k ≤ n ∧ i = .int .i64 k ∧ Below w.heap.size w wr ∧ ∃ cs, wr.ownsRow w.heap.size 29 1 (.slice (some ⟨w.heap.size, 0, none⟩) n n) n cs ∧ ∀ j, j < k → cs[j]? = (ns.map (Value.int .u64))[j]?) (fun i _ => n - (intOf i).toNat)
  case atStart => exact ⟨0, by omega, rfl, (Below.refl _ _).grown hgrow0 (Nat.le_refl _) (fun k h => by cases h), _, hown0, fun j h => by omega⟩
  case round =>
    obtain ⟨k, hk, rfl, hbel, cs, hown, hall⟩ := hrel
    have HA : Hid (∀ j, j < k → cs[j]? = (ns.map (Value.int .u64))[j]?) := hall
    clear hall
    by_cases hlt : k < n
    · obtain ⟨b, off, hx, hb, hc⟩ := HF.out (by omega)
      obtain rfl := Option.some.inj hx
      have c0 := (hbel.cell (p := ⟨b, off + k, none⟩) (by exact hb)).trans (hc k hlt)
      obtain ⟨v0, o0⟩ := one_cell hown k hlt
      have f0 := hown.frozenAt k
      clear hc hx
      go_wp2
      go_roundw
      case rel => exact ⟨k + 1, by omega, by go_num, hbel.setCell (p := ⟨w.heap.size, k, none⟩) (Nat.le_refl _) _, one_step hown hL hlt HA.out⟩
      case measure => simp [intOf]; omega
    · go_wp2
      go_ret
      exact ⟨_, rfl, one_done hown hL hlt HA.out, hbel⟩

set_option maxHeartbeats 400000 in
theorem clone26_nil (w : World) : Calls Try.prog 26 #[.slice none 0 0] w fun e w' => e = .returned (.slice none 0 0) ∧ w' = w := by
  have hq := q26
  go_enter Try.func26, Try.ntmps26
  go_wp2
  go_ret
  exact ⟨rfl, rfl⟩

theorem clone26 {v : Value} {ns : List Int} (w : World) (hs : ns.length ≤ 1048576) (h : Ns .u64 w v ns) :
    Calls Try.prog 26 #[v] w fun e w' => ∃ v', e = .returned v' ∧ w'.ownsRow w.heap.size 29 1 v' ns.length (ns.map (Value.int .u64)) ∧ Below w.heap.size w w' := by
  obtain ⟨a, n, c, rfl, hn, hnil, hc, hf⟩ := h.form
  cases a with
  | none =>
    obtain ⟨rfl, rfl⟩ := hnil rfl
    have e : ns = [] := List.eq_nil_of_length_eq_zero hn.symm
    subst e
    exact (clone26_nil w).mono fun e w' ⟨he, hw⟩ => ⟨_, he, World.ownsRow_nil _ _ _ _, hw ▸ Below.refl _ _⟩
  | some x =>
    subst hn
    exact clone26_some x _ c ns w rfl hs hf

theorem q27 (w : World) (a : Option Addr) (n c n' c' : Nat) : (binOp .eql 39 (.slice a n c) (.slice none n' c')).run Try.prog w = .ok (.bool a.isNone) w := Lib.run_eql_slice_nil w _ _ a n c n' c' Try.underlying39

set_option maxHeartbeats 400000 in
theorem clone27_some (x : Addr) (n c : Nat) (ns : List Int) (w : World) (hL : ns.length = n) (h1 : n ≤ 1048576)
    (hf : 0 < n → ∃ b off, some x = some (⟨b, off, none⟩ : Addr) ∧ b < w.heap.size ∧ ∀ i, i < n → w.cell? ⟨b, off + i, none⟩ = some (.int .i64 (wd ns i))) :
    Calls Try.prog 27 #[.slice (some x) n c] w fun e w' => ∃ v, e = .returned v ∧ w'.ownsRow w.heap.size 3 1 v n (ns.map (Value.int .i64)) ∧ Below w.heap.size w w' := by
  obtain ⟨i0, hi, hz0, hz1, hz2⟩ := info_parts info3
  have hq := q27
  have HF : Hid _ := hf
  clear hf
  go_enter Try.func27, Try.ntmps27
  go_wp2_with (at_make; refine wpList_make_full _ rfl _ _ 39 rfl w.heap.size 3 i0 (.int .i64 0) 1 Try.underlying39 hi hz0 hz1 _ _ _ _ n rfl rfl rfl rfl ?b2 ?b3 (Nat.le_refl _) ?_)
  case b2 => rw [hz2]; omega
  case b3 => unfold maxLen; omega
  intro w0 hown0 hgrow0
  clear hq hi hz0 hz1 hz2
  go_wp2
  go_loopw [4] (fun i wr => ∃ k : Nat, k ≤ n ∧ i = .int .i64 k ∧ Below w.heap.size w wr ∧ ∃ cs, wr.ownsRow w.heap.size 3 1 (.slice (some ⟨w.heap.size, 0, none⟩) n n) n cs ∧ ∀ j, j < k → cs[j]? = (ns.map (Value.int .i64))[j]?) (fun i _ => n - (intOf i).toNat)
  case atStart => exact ⟨0, by omega, rfl, (Below.refl _ _).grown hgrow0 (Nat.le_refl _) (fun k h => by cases h), _, hown0, fun j h => by omega⟩
  case round =>
    obtain ⟨k, hk, rfl, hbel, cs, hown, hall⟩ := hrel
    have HA : Hid (∀ j, j < k → cs[j]? = (ns.map (Value.int .i64))[j]?) := hall
    clear hall
    by_cases hlt : k < n
    · obtain ⟨b, off, hx, hb, hc⟩ := HF.out (by omega)
      obtain rfl := Option.some.inj hx
      have c0 := (hbel.cell (p := ⟨b, off + k, none⟩) (by exact hb)).trans (hc k hlt)
      obtain ⟨v0, o0⟩ := one_cell hown k hlt
      have f0 := hown.frozenAt k
      clear hc hx
      go_wp2
      go_roundw
      case rel => exact ⟨k + 1, by omega, by go_num, hbel.setCell (p := ⟨w.heap.size, k, none⟩) (Nat.le_refl _) _, one_step hown hL hlt HA.out⟩
      case measure => simp [intOf]; omega
    · go_wp2
      go_ret
      exact ⟨_, rfl, one_done hown hL hlt HA.out, hbel⟩

set_option maxHeartbeats 400000 in
theorem clone27_nil (w : World) : Calls Try.prog 27 #[.slice none 0 0] w fun e w' => e = .returned (.slice none 0 0) ∧ w' = w := by
  have hq := q27
  go_enter Try.func27, Try.ntmps27
  go_wp2
  go_ret
  exact ⟨rfl, rfl⟩

theorem clone27 {v : Value} {ns : List Int} (w : World) (hs : ns.length ≤ 1048576) (h : Ns .i64 w v ns) :
    Calls Try.prog 27 #[v] w fun e w' => ∃ v', e = .returned v' ∧ w'.ownsRow w.heap.size 3 1 v' ns.length (ns.map (Value.int .i64)) ∧ Below w.heap.size w w' := by
  obtain ⟨a, n, c, rfl, hn, hnil, hc, hf⟩ := h.form
  cases a with
  | none =>
    obtain ⟨rfl, rfl⟩ := hnil rfl
    have e : ns = [] := List.eq_nil_of_length_eq_zero hn.symm
    subst e
    exact (clone27_nil w).mono fun e w' ⟨he, hw⟩ => ⟨_, he, World.ownsRow_nil _ _ _ _, hw ▸ Below.refl _ _⟩
  | some x =>
    subst hn
    exact clone27_some x _ c ns w rfl hs hf

set_option maxHeartbeats 400000 in
theorem slen23 (a b : Option Addr) (n m c d : Nat) (w : World) (hn : n ≤ maxLen) (hm : m ≤ maxLen) :
    Calls Try.prog 23 #[.slice a n c, .slice b m d] w fun e w' => e = .returned (.int .i64 ((min n m : Nat) : Int)) ∧ w' = w := by
  unfold maxLen at hn hm
  by_cases h : m < n
  · have e : min n m = m := by omega
    rw [e]
    clear e
    go_enter Try.func23, Try.ntmps23
    go_wp2
    go_ret
    exact ⟨rfl, rfl⟩
  · have e : min n m = n := by omega
    rw [e]
    clear e
    go_enter Try.func23, Try.ntmps23
    go_wp2
    go_ret
    exact ⟨rfl, rfl⟩

/-- The first n indexes lie in range. -/
def inR (ns : List Int) (m : Nat) : Bool := decide (∀ k, k < m → k < ns.length → 0 ≤ wd ns k ∧ wd ns k ≤ 65536)

set_option maxHeartbeats 400000 in
theorem inR24 {v : Value} {ns : List Int} (m : Nat) (w : World) (hm : m ≤ 1048576) (h : Ns .i64 w v ns) :
    Calls Try.prog 24 #[v, .int .i64 (m : Int)] w fun e w' => e = .returned (.bool (inR ns m)) ∧ Below w.heap.size w w' := by
  obtain ⟨a, n, c, rfl, hn, _, hM, hf⟩ := h.form
  unfold maxLen at hM
  have HF : Hid _ := hf
  have HN : Hid (n = ns.length) := hn
  clear hf hn h
  go_enter Try.func24, Try.ntmps24
  go_wp2
  go_loopw [5] (fun i wr => ∃ k : Nat, k ≤ m ∧ k ≤ n ∧ i = .int .i64 k ∧ wr = w ∧ ∀ j, j < k → 0 ≤ wd ns j ∧ wd ns j ≤ 65536) (fun i _ => m - (intOf i).toNat)
  case atStart => exact ⟨0, by omega, by omega, rfl, rfl, fun j h => by omega⟩
  case round =>
    obtain ⟨k, hk, hkn, rfl, rfl, hall⟩ := hrel
    have HA : Hid (∀ j, j < k → 0 ≤ wd ns j ∧ wd ns j ≤ 65536) := hall
    clear hall
    by_cases h1 : k < m
    · by_cases h2 : k < n
      · obtain ⟨b, off, hx, hb, hc⟩ := HF.out (by omega)
        subst hx
        have c0 := hc k h2
        clear hc
        by_cases h3 : wd ns k < 0
        · go_wp2
          go_ret
          exact ⟨ret_bool (decide_eq_false (fun h => absurd (h k h1 (by rw [← HN.out]; exact h2)) (by omega))).symm, Below.refl _ _⟩
        · by_cases h4 : wd ns k ≤ 65536
          · go_wp2
            go_roundw
            case rel =>
              refine ⟨k + 1, by omega, by omega, by go_num, by trivial, fun j hj => ?_⟩
              by_cases e : j = k
              · rw [e]; exact ⟨by omega, h4⟩
              · exact HA.out j (by omega)
            case measure => simp [intOf]; omega
          · go_wp2
            go_ret
            exact ⟨ret_bool (decide_eq_false (fun h => absurd (h k h1 (by rw [← HN.out]; exact h2)) (by omega))).symm, Below.refl _ _⟩
      · go_wp2
        go_ret
        exact ⟨ret_bool (decide_eq_true (fun j h3 h4 => HA.out j (by rw [← HN.out] at h4; omega))).symm, Below.refl _ _⟩
    · have t1 : decide ((k : Int) < (m : Int)) = false := decide_eq_false (by omega)
      go_wp2
      go_ret
      exact ⟨ret_bool (decide_eq_true (fun j h3 h4 => HA.out j (by omega))).symm, Below.refl _ _⟩

end Go.Proofs.Qxb6600021a
