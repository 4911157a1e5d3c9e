/-
  The walks: the bounds (5, 9), the clone (6), headerLen (11, 8).
-/
import Derived.Test.Qxb6001768aDoorBase
import Derived.Test.Qxb6001768aDoorSh
namespace Go.Proofs.Qxb6001768aDoor
open Go.RowKit
set_option linter.unusedVariables false

theorem ret_bool {a b : Bool} (h : a = b) : Ending.returned (.bool a) = .returned (.bool b) := by rw [h]
theorem bytes_below {w w1 : World} (hw : w1 = w ∨ ∃ t, w1 = Lib.bytesWorld w 5 t) : Below w.heap.size w w1 := by
  rcases hw with rfl | ⟨t, rfl⟩
  · exact Below.refl _ _
  · exact Lib.bytesWorld_below _ _ _

set_option maxHeartbeats 400000 in
theorem zzb5 (a : Option Addr) (n ca : Nat) (lim : Int) (s : ByteArray) (w : World) (hn : n ≤ maxLen) (hs : s.size ≤ maxLen) :
    Calls Tryd.prog 5 #[.slice a n ca, .int .i64 lim, .string s] w fun e w' => e = .returned (.bool (decide (n + s.size ≤ 1048576))) ∧ w' = w := by
  unfold maxLen at hn hs
  by_cases h1 : n ≤ 1048576
  · by_cases h2 : s.size ≤ 1048576
    · by_cases h3 : n + s.size ≤ 1048576
      · go_enter Tryd.func5, Tryd.ntmps5
        go_wp2
        go_ret
        exact ⟨ret_bool (by simp; omega), rfl⟩
      · go_enter Tryd.func5, Tryd.ntmps5
        go_wp2
        go_ret
        exact ⟨ret_bool (by simp; omega), rfl⟩
    · go_enter Tryd.func5, Tryd.ntmps5
      go_wp2
      go_ret
      exact ⟨ret_bool (by simp; omega), rfl⟩
  · go_enter Tryd.func5, Tryd.ntmps5
    go_wp2
    go_ret
    exact ⟨ret_bool (by simp; omega), rfl⟩

set_option maxHeartbeats 400000 in
theorem zzb9 (n lim : Int) (s : ByteArray) (w : World) (hs : s.size ≤ maxLen) :
    Calls Tryd.prog 9 #[.int .i64 n, .int .i64 lim, .string s] w fun e w' => e = .returned (.bool (decide (s.size ≤ 1048576))) ∧ w' = w := by
  unfold maxLen at hs
  by_cases h2 : s.size ≤ 1048576
  · go_enter Tryd.func9, Tryd.ntmps9
    go_wp2
    go_ret
    exact ⟨ret_bool (by simp; omega), rfl⟩
  · go_enter Tryd.func9, Tryd.ntmps9
    go_wp2
    go_ret
    exact ⟨ret_bool (by simp; omega), rfl⟩

/-- What headerLen hands back. -/
def hres (s : ByteArray) : Option Int → Value
  | some x => .tuple #[.int .i64 x, .nilIface]
  | none => .tuple #[.int .i64 0, .iface 31 (.string s)]

set_option maxHeartbeats 400000 in
theorem head11 {v : Value} {l : List UInt8} (lim : Int) (s : ByteArray) (w : World) (h : Bs w v l) (hl : l.length ≤ 1048576) (tp0 tp1 : TypeId) (p0 p1 : Value)
    (hv0 : w.var? Tryd.prog "strconv.ErrSyntax" = some #[.iface tp0 p0]) (hv1 : w.var? Tryd.prog "strconv.ErrRange" = some #[.iface tp1 p1]) :
    Calls Tryd.prog 11 #[v, .int .i64 lim, .string s] w fun e w' => e = .returned (hres s (hdr l lim)) ∧ Below w.heap.size w w' := by
  have hcv := h.text
  have hz : (⟨l.toArray⟩ : ByteArray).size = l.length := by show l.toArray.size = _; simp
  have hd : (⟨l.toArray⟩ : ByteArray).data.toList = l := by simp
  unfold hdr
  obtain ⟨a, n, c, rfl, x1, x2, x3, x4⟩ := h.form
  clear x1 x2 x3 x4
  generalize hst : (⟨l.toArray⟩ : ByteArray) = st at hcv hz hd
  rcases atoi_cases l with ⟨x, ha⟩ | ha | ha
  · rw [ha]
    rw [← hd] at ha
    have HA := hide ha
    clear ha hd hst h hv0 hv1
    have okv := (Tryd.strconv_Atoi_ok st (by omega) x HA.out w)
    by_cases h1 : x < -1
    · simp only
      rw [if_pos (.inl h1)]
      go_enter Tryd.func11, Tryd.ntmps11
      go_wp2_with (go_at_call 13; refine okv.mono ?_; rintro e w1 ⟨rfl, hw⟩)
      go_ret2
      exact ⟨rfl, bytes_below hw⟩
    · by_cases h2 : lim < x
      · simp only
        rw [if_pos (.inr h2)]
        go_enter Tryd.func11, Tryd.ntmps11
        go_wp2_with (go_at_call 13; refine okv.mono ?_; rintro e w1 ⟨rfl, hw⟩)
        go_ret2
        exact ⟨rfl, bytes_below hw⟩
      · simp only
        rw [if_neg (by omega)]
        go_enter Tryd.func11, Tryd.ntmps11
        go_wp2_with (go_at_call 13; refine okv.mono ?_; rintro e w1 ⟨rfl, hw⟩)
        go_ret2
        exact ⟨rfl, bytes_below hw⟩
  · rw [ha]
    rw [← hd] at ha
    have okv := Tryd.strconv_Atoi_syntax_var st (by omega) ha tp0 p0 w hv0
    clear ha hd hst h hv0 hv1
    go_enter Tryd.func11, Tryd.ntmps11
    go_wp2_with (go_at_call 13; refine okv.mono ?_; rintro e w1 ⟨N, rfl, -, -, hb⟩)
    go_ret2
    exact ⟨rfl, hb⟩
  · rw [ha]
    rw [← hd] at ha
    have okv := Tryd.strconv_Atoi_range_var st (by omega) ha tp1 p1 w hv1
    clear ha hd hst h hv0 hv1
    go_enter Tryd.func11, Tryd.ntmps11
    go_wp2_with (go_at_call 13; refine okv.mono ?_; rintro e w1 ⟨N, rfl, -, -, hb⟩)
    go_ret2
    exact ⟨rfl, hb⟩

set_option maxHeartbeats 400000 in
theorem zz8 {v : Value} {l : List UInt8} (lim : Int) (s : ByteArray) (w : World) (h : Bs w v l) (hl : l.length ≤ 1048576) (tp0 tp1 : TypeId) (p0 p1 : Value)
    (hv0 : w.var? Tryd.prog "strconv.ErrSyntax" = some #[.iface tp0 p0]) (hv1 : w.var? Tryd.prog "strconv.ErrRange" = some #[.iface tp1 p1]) :
    Calls Tryd.prog 8 #[v, .int .i64 lim, .string s] w fun e w' => e = .returned (hres s (hdr l lim)) ∧ Below w.heap.size w w' := by
  have hc := head11 lim s w h hl tp0 tp1 p0 p1 hv0 hv1
  clear hv0 hv1 h
  cases hh : hdr l lim with
  | none =>
    rw [hh] at hc
    clear hh
    go_enter Tryd.func8, Tryd.ntmps8
    go_wp2_with (go_at_call 11; refine hc.mono ?_; rintro e w1 ⟨rfl, hb⟩; simp only [hres])
    go_ret2
    exact ⟨rfl, hb⟩
  | some x =>
    rw [hh] at hc
    clear hh
    go_enter Tryd.func8, Tryd.ntmps8
    go_wp2_with (go_at_call 11; refine hc.mono ?_; rintro e w1 ⟨rfl, hb⟩; simp only [hres])
    go_ret2
    exact ⟨rfl, hb⟩

theorem q22 (w : World) (a : Option Addr) (n c n' c' : Nat) : (binOp .eql 22 (.slice a n c) (.slice none n' c')).run Tryd.prog w = .ok (.bool a.isNone) w := Lib.run_eql_slice_nil w _ _ a n c n' c' Tryd.underlying22
theorem info5 : (Tryd.prog.info? 5).map (fun i => (i.zero, i.size, i.bytes)) = some (some (.int .u8 0), 1, 1) := by kernel_rfl

set_option maxHeartbeats 400000 in
theorem clone6_some (x : Addr) (n c : Nat) (l : List UInt8) (w : World) (hL : l.length = n) (h1 : n ≤ 1048576)
    (hf : 0 < n → ∃ b off, some x = some (⟨b, off, none⟩ : Addr) ∧ b < w.heap.size ∧ ∀ k, k < n → w.cell? ⟨b, off + k, none⟩ = some (.int .u8 (byt l k))) :
    Calls Tryd.prog 6 #[.slice (some x) n c] w fun e w' => ∃ v, e = .returned v ∧ Bs w' v l ∧ Below w.heap.size w w' := by
  obtain ⟨i0, hi, hz0, hz1, hz2⟩ := info_parts info5
  have hq := q22
  have HF := hide hf
  clear hf
  go_enter Tryd.func6, Tryd.ntmps6
  go_wp2_with (at_make; refine wpList_make_full _ rfl _ _ 22 rfl w.heap.size 5 i0 (.int .u8 0) 1 Tryd.underlying22 hi hz0 hz1 _ _ _ _ n rfl rfl rfl rfl ?b2 ?b3 (Nat.le_refl _) ?_)
  case b2 => rw [hz2]; omega
  case b3 => unfold maxLen; omega
  intro w0 hown0 hgrow0
  clear hq hi hz0 hz1 hz2
  go_wp2
  go_loopw [4] (fun i wr => ∃ k : Nat, k ≤ n ∧ i = .int .i64 k ∧ Below w.heap.size w wr ∧ ∃ cs, wr.ownsRow w.heap.size 5 1 (.slice (some ⟨w.heap.size, 0, none⟩) n n) n cs ∧ ∀ j, j < k → cs[j]? = (bcs l)[j]?) (fun i _ => n - (intOf i).toNat)
  case atStart => exact ⟨0, by omega, rfl, (Below.refl _ _).grown hgrow0 (Nat.le_refl _) (fun k h => by cases h), _, hown0, fun j h => by omega⟩
  case round =>
    obtain ⟨k, hk, rfl, hbel, cs, hown, hall⟩ := hrel
    have HA := hide hall
    clear hall
    by_cases hlt : k < n
    · obtain ⟨b, off, hx, hb, hc⟩ := HF.out (by omega)
      obtain rfl := Option.some.inj hx
      have e0 := hc k hlt
      have d0 := (hbel.cell (p := ⟨b, off + k, none⟩) (by exact hb)).trans e0
      obtain ⟨v0, o0⟩ : ∃ v, wr.cell? ⟨w.heap.size, k, none⟩ = some v := by
        rw [hown.cellAt k (by omega)]
        have := hown.1
        exact ⟨_, List.getElem?_eq_getElem (by omega)⟩
      have f0 := hown.frozenAt k
      clear hc hx e0
      go_wp2
      go_roundw
      case rel =>
        refine ⟨k + 1, by omega, by go_num, hbel.setCell (p := ⟨w.heap.size, k, none⟩) (Nat.le_refl _) _, _, (hown.stored k _).1, fun j hj => ?_⟩
        have := hown.1
        rw [List.getElem?_set]
        by_cases e : k = j
        · subst e
          rw [if_pos rfl, if_pos (by omega), bcs_at l k (by omega)]
        · rw [if_neg e]
          exact HA.out j (by omega)
      case measure => simp [intOf]; omega
    · go_wp2
      go_ret
      refine ⟨_, rfl, Bs.ofOwn (base := w.heap.size) ?_, hbel⟩
      rw [hL]
      have e : cs = bcs l := by
        apply List.ext_getElem?
        intro j
        have := hown.1
        by_cases hj : j < n
        · exact HA.out j (by omega)
        · rw [List.getElem?_eq_none (by omega), List.getElem?_eq_none (by rw [bcs_length]; omega)]
      subst e
      exact hown

set_option maxHeartbeats 400000 in
theorem clone6_nil (w : World) : Calls Tryd.prog 6 #[.slice none 0 0] w fun e w' => e = .returned (.slice none 0 0) ∧ w' = w := by
  have hq := q22
  go_enter Tryd.func6, Tryd.ntmps6
  go_wp2
  go_ret
  exact ⟨rfl, rfl⟩

theorem clone6 {v : Value} {l : List UInt8} (w : World) (hs : l.length ≤ 1048576) (h : Bs w v l) :
    Calls Tryd.prog 6 #[v] w fun e w' => ∃ v', e = .returned v' ∧ Bs w' v' l ∧ Below w.heap.size w w' := by
  obtain ⟨a, n, c, rfl, hn, hnil, hc, hf⟩ := h.form
  cases a with
  | none =>
    obtain ⟨rfl, rfl⟩ := hnil rfl
    have e : l = [] := List.eq_nil_of_length_eq_zero hn.symm
    subst e
    exact (clone6_nil w).mono fun e w' ⟨he, hw⟩ => ⟨_, he, Bs.nil _, hw ▸ Below.refl _ _⟩
  | some x =>
    subst hn
    exact clone6_some x _ c l w rfl hs hf

end Go.Proofs.Qxb6001768aDoor
