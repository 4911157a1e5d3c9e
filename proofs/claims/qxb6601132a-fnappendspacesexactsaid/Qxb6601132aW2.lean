/-
  FnAppendSpacesExact (3): the walk.
-/
import Derived.Test.Qxb6601132aW1
namespace Go.Proofs.Qxb6601132a
open Go.RowKit
set_option linter.unusedVariables false

set_option maxHeartbeats 400000 in
theorem zspaces7 {base : Nat} {a : Option Addr} {n : Nat} {ns : List Int} (z : Int) (hz : z ≤ 65536) (w : World) (hn : n = ns.length) (hs : n ≤ 1048576) (hown : w.ownsRow base 5 1 (.slice a n n) n (u8s ns)) :
    Calls Try.prog 7 #[.slice a n n, .int .i64 z] w fun e w' => ∃ a' c', e = .returned (.slice a' (n + z.toNat) c') ∧ Ns w' (.slice a' (n + z.toNat) c') (ns ++ blanks z.toNat) ∧ a'.isNone = (a.isNone && decide (z ≤ 0)) ∧ Below w.heap.size w w' := by
  by_cases h0 : z ≤ 0
  · have e0 : z.toNat = 0 := by omega
    have hp : Ns w (.slice a n n) ns := Ns.ofOwn (by rw [← hn]; exact hown)
    have HP : Hid _ := hp
    have HE : Hid (z.toNat = 0) := e0
    clear hown hp e0 hn
    go_enter Try.func7, Try.ntmps7
    go_wp2_with fail
    refine (spaces11_none a n n z h0 w).mono ?_
    rintro e w1 ⟨rfl, rfl⟩
    go_wp2
    go_ret
    refine ⟨a, n, ?_, ?_, ?_, Below.refl _ _⟩
    · rw [HE.out]; rfl
    · have hb0 : ns ++ blanks 0 = ns := by simp [blanks]
      rw [HE.out, hb0]; exact HP.out
    · simp [h0]
  · have HO : Hid _ := hown
    have HN : Hid (n = ns.length) := hn
    clear hown hn
    go_enter Try.func7, Try.ntmps7
    go_wp2_with fail
    refine (spaces11_some z hz (by omega) w HN.out hs HO.out).mono ?_
    rintro e w1 ⟨g, c', rfl, o1, b1⟩
    have HO1 : Hid _ := o1
    clear o1
    go_wp2
    go_ret
    refine ⟨_, c', rfl, Ns.ofOwn (base := w.heap.size) ?_, ?_, b1⟩
    · rw [List.length_append, blanks_length, ← HN.out]; exact HO1.out
    · simp [h0]

set_option maxHeartbeats 400000 in
theorem clamp8 (z : Int) (w : World) : Calls Try.prog 8 #[.int .i64 z] w fun e w' => e = .returned (.int .i64 (z.toNat : Int)) ∧ w' = w := by
  by_cases h : z < 0
  · have e : ((z.toNat : Nat) : Int) = 0 := by omega
    rw [e]
    clear e
    go_enter Try.func8, Try.ntmps8
    go_wp2
    go_ret
    exact ⟨rfl, rfl⟩
  · have e : ((z.toNat : Nat) : Int) = z := by omega
    rw [e]
    clear e
    go_enter Try.func8, Try.ntmps8
    go_wp2
    go_ret
    exact ⟨rfl, rfl⟩

set_option maxHeartbeats 400000 in
theorem zzb5 (a : Option Addr) (n c : Nat) (z : Int) (w : World) (hn : n ≤ maxLen) : Calls Try.prog 5 #[.slice a n c, .int .i64 z] w fun e w' => e = .returned (.bool (decide (n ≤ 1048576))) ∧ w' = w := by
  unfold maxLen at hn
  by_cases h : n ≤ 1048576
  · go_enter Try.func5, Try.ntmps5
    go_wp2
    go_ret
    exact ⟨ret_bool (decide_eq_true h).symm, rfl⟩
  · go_enter Try.func5, Try.ntmps5
    go_wp2
    go_ret
    exact ⟨ret_bool (decide_eq_false h).symm, rfl⟩

theorem wd_left (ns ms : List Int) (i : Nat) (h : i < ns.length) : wd (ns ++ ms) i = wd ns i := by
  unfold wd; simp [List.getD_eq_getElem?_getD, List.getElem?_append_left h]
theorem wd_right (ns : List Int) (k i : Nat) (h1 : ns.length ≤ i) (h2 : i < ns.length + k) : wd (ns ++ blanks k) i = 32 := by
  unfold wd blanks
  rw [List.getD_eq_getElem?_getD, List.getElem?_append_right h1, List.getElem?_replicate, if_pos (by omega)]
  rfl

theorem own_below {w w' : World} {base e size n : Nat} {v : Value} {xs : List Value} (h : w.ownsRow base e size v n xs) (hb : Below w.heap.size w w') : w'.ownsRow base e size v n xs := by
  refine ⟨h.1, ?_⟩
  rcases h.2 with hn | ⟨g, cap, cur, rfl, hbg, hgg, rest⟩
  · exact .inl hn
  · exact .inr ⟨g, cap, cur, rfl, hbg, (hb.block g (Array.getElem?_eq_some_iff.1 hgg).1).trans hgg, rest⟩

set_option maxHeartbeats 1000000 in
set_option maxRecDepth 100000 in
theorem law3 {v : Value} {ns : List Int} (z : Int) (w : World) (g0 : Ns w v ns) (hzl : -9223372036854775808 ≤ z) (hzh : z ≤ 9223372036854775807) :
    Calls Try.prog 3 #[v, .int .i64 z] w fun e w' => e = .returned (.bool true) ∧ Below w.heap.size w w' := by
  obtain ⟨a, n, c, rfl, hN, _, hM, _⟩ := g0.form
  have HN : Hid (n = ns.length) := hN
  have hM' : n ≤ 9223372036854775807 := by unfold maxLen at hM; omega
  clear hN
  by_cases h1 : n ≤ 1048576
  · have d0 : decide (n ≤ 1048576) = true := decide_eq_true h1
    have e1 : decide ((1048576 : Int) < (n : Int)) = false := decide_eq_false (by omega)
    by_cases h2 : z ≤ 65536
    · have e2 : decide ((65536 : Int) < z) = false := decide_eq_false (by omega)
      have hq := q22
      go_enter Try.func3, Try.ntmps3
      go_wp2_with fail
      refine (zzb5 a n c z _ hM).mono ?_
      rintro e w1 ⟨rfl, rfl⟩
      rw [d0]
      go_wp2_with fail
      refine (clone6 _ (by rw [← HN.out]; exact h1) g0).mono ?_
      rintro e w2 ⟨a2, rfl, o2, i2, b2⟩
      have p2 : Ns w2 (.slice a2 n n) ns := Ns.ofOwn (by rw [← HN.out]; exact o2)
      go_wp2_with fail
      refine (clone6 _ (by rw [← HN.out]; exact h1) p2).mono ?_
      rintro e w3 ⟨a3, rfl, o3, i3, b3⟩
      have B3 := b2.trans (b3.mono b2.size)
      have p3 : Ns w3 (.slice a3 n n) ns := Ns.ofOwn (by rw [← HN.out]; exact o3)
      go_wp2_with fail
      refine (zspaces7 z h2 _ HN.out h1 (own_below o2 b3)).mono ?_
      rintro e w4 ⟨a4, c4, rfl, p4, i4, b4⟩
      have B4 := B3.trans (b4.mono B3.size)
      have p5 := p3.below b4
      obtain ⟨m, hm⟩ : ∃ m, m = z.toNat := ⟨_, rfl⟩
      rw [← hm] at p4 ⊢
      have hm1 : m ≤ 65536 := by omega
      have hm2 : m ≤ 0 → z ≤ 0 := by omega
      have hm3 : 1 ≤ m → ¬ z ≤ 0 := by omega
      obtain ⟨u4, n4, d4, hv4, hn4, _, _, hf4⟩ := p4.form
      obtain ⟨u5, n5, d5, hv5, hn5, _, _, hf5⟩ := p5.form
      simp only [Value.slice.injEq] at hv4 hv5
      obtain ⟨rfl, rfl, rfl⟩ := hv4
      obtain ⟨rfl, rfl, rfl⟩ := hv5
      have HF4 : Hid _ := hf4
      have HF5 : Hid _ := hf5
      have HI4 : Hid (a4.isNone = (a2.isNone && decide (z ≤ 0))) := i4
      have HI3 : Hid (a3.isNone = a2.isNone) := i3
      have HMz : Hid (m = z.toNat) := hm
      clear o2 o3 p2 p3 p4 p5 i2 i3 i4 b2 b3 b4 B3 hf4 hf5 hn4 hn5 g0 hm
      go_wp2_with fail
      refine (clamp8 z _).mono ?_
      rintro e w5 ⟨rfl, rfl⟩
      rw [← HMz.out]
      have tl : (((n + m : Nat) : Int) != (n : Int) + (m : Int)) = false := by simp
      have tl2 : ((n : Int) + (m : Int) != (n : Int) + (m : Int)) = false := by simp
      have hways : (a3.isNone = true ∧ a4.isNone = true ∧ ((m : Int) == 0) = true) ∨ (a3.isNone = true ∧ a4.isNone = false ∧ ((m : Int) == 0) = false) ∨ (a3.isNone = false ∧ a4.isNone = false) := by
        have e3 := HI3.out
        have e4 := HI4.out
        cases hP : a2.isNone with
        | false => rw [hP] at e3 e4; exact .inr (.inr ⟨e3, by rw [e4]; rfl⟩)
        | true =>
          rw [hP] at e3 e4
          by_cases hm0 : m ≤ 0
          · exact .inl ⟨e3, by rw [e4, decide_eq_true (hm2 hm0)]; rfl, beq_iff_eq.2 (by omega)⟩
          · exact .inr (.inl ⟨e3, by rw [e4, decide_eq_false (show ¬ z ≤ 0 from by have := hm3 (by omega); omega)]; rfl, beq_eq_false_iff_ne.2 (by omega)⟩)
      have hrest : True := trivial
      clear hm2 hm3
      rcases hways with ⟨t3, t4, tm⟩ | ⟨t3, t4, tm⟩ | ⟨t3, t4⟩
      all_goals
        go_wp2
        go_loopw [8] (fun i wr => ∃ k : Nat, k ≤ n ∧ i = .int .i64 k ∧ Below w5.heap.size w5 wr) (fun i _ => n - (intOf i).toNat)
        case atStart => exact ⟨0, by omega, rfl, Below.refl _ _⟩
        case round =>
          obtain ⟨k, hk, rfl, hbel⟩ := hrel
          by_cases hlt : k < n
          · obtain ⟨b6, o6, h6, hb6, hc6⟩ := HF4.out (by omega)
            obtain ⟨b7, o7, h7, hb7, hc7⟩ := HF5.out (by omega)
            subst h6 h7
            have x6 := (hbel.cell (p := ⟨b6, o6 + k, none⟩) (by exact hb6)).trans (hc6 k (by omega))
            have x7 := (hbel.cell (p := ⟨b7, o7 + k, none⟩) (by exact hb7)).trans (hc7 k (by omega))
            rw [wd_left _ _ _ (by rw [← HN.out]; exact hlt)] at x6
            have tx : (wd ns k != wd ns k) = false := by simp
            clear hc6 hc7 t3 t4
            go_wp2
            go_region
            go_wp2
            go_roundw
            case rel => exact ⟨k + 1, by omega, by go_num, hbel.drew⟩
            case measure => simp [intOf]; omega
          · go_wp2
            go_loopw [9] (fun i wr => ∃ k : Nat, n ≤ k ∧ k ≤ n + m ∧ i = .int .i64 k ∧ Below w5.heap.size w5 wr) (fun i _ => n + m - (intOf i).toNat)
            case atStart => exact ⟨n, by omega, by omega, rfl, hbel⟩
            case round =>
              clear hbel hlt hk
              obtain ⟨k2, hk1, hk2, rfl, hbel⟩ := hrel
              by_cases hlt : k2 < n + m
              · obtain ⟨b6, o6, h6, hb6, hc6⟩ := HF4.out (by omega)
                subst h6
                have x6 := (hbel.cell (p := ⟨b6, o6 + k2, none⟩) (by exact hb6)).trans (hc6 k2 (by omega))
                rw [wd_right _ _ _ (by rw [← HN.out]; exact hk1) (by rw [← HN.out]; exact hlt)] at x6
                clear hc6 t3 t4
                go_wp2
                go_roundw
                case rel => exact ⟨k2 + 1, by omega, by omega, by go_num, hbel⟩
                case measure => simp [intOf]; omega
              · go_wp2
                go_ret
                exact ⟨rfl, B4.trans (hbel.mono B4.size)⟩
    · have e2 : 65536 < z := by omega
      go_enter Try.func3, Try.ntmps3
      go_wp2_with fail
      refine (zzb5 a n c z _ hM).mono ?_
      rintro e w1 ⟨rfl, rfl⟩
      rw [d0]
      go_wp2
      go_ret
      exact ⟨rfl, Below.refl _ _⟩
  · have d0 : decide (n ≤ 1048576) = false := decide_eq_false h1
    go_enter Try.func3, Try.ntmps3
    go_wp2_with fail
    refine (zzb5 a n c z _ hM).mono ?_
    rintro e w1 ⟨rfl, rfl⟩
    rw [d0]
    go_wp2
    go_ret
    exact ⟨rfl, Below.refl _ _⟩

end Go.Proofs.Qxb6601132a
