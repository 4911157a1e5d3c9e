/-
  FnUnionIsTheMergeOfBoth (3).
-/
import Derived.Test.Qxb6600021aU6
import Derived.Test.Qxb6600021aU7
namespace Go.Proofs.Qxb6600021a
open Go.RowKit
set_option linter.unusedVariables false

/-- The shape of a slice of pairs: where it has an element, its address and its cells. -/
theorem Prs.form {w : World} {v : Value} {L : List (Int × Int)} (h : Prs w v L) : ∃ a n c, v = .slice a n c ∧ n = L.length ∧
    (0 < n → ∃ b off, a = some ⟨b, off, none⟩ ∧ b < w.heap.size ∧
      (∀ i, i < n → w.cell? ⟨b, off + i * 2, none⟩ = some (.int .i64 (ix L i))) ∧ ∀ i, i < n → w.cell? ⟨b, off + i * 2 + 1, none⟩ = some (.int .u64 (bt L i))) := by
  rcases h.cases with ⟨rfl, rfl⟩ | ⟨x, cap, rfl, _, rfl⟩ | ⟨b, off, cap, hn, rfl, h1, h2, hb, hc, hd⟩
  · exact ⟨none, 0, 0, rfl, rfl, fun h => absurd h (by omega)⟩
  · exact ⟨some x, 0, cap, rfl, rfl, fun h => absurd h (by omega)⟩
  · exact ⟨_, _, cap, rfl, rfl, fun _ => ⟨b, off, rfl, hb, hc, hd⟩⟩

set_option maxHeartbeats 2000000 in
set_option maxRecDepth 100000 in
theorem law3 {v u : Value} {L M : List (Int × Int)} (w : World) (h : Prs w v L) (g : Prs w u M) (wL : Wf L) (wM : Wf M) :
    Calls Try.prog 3 #[v, u] w fun e w' => e = .returned (.bool true) ∧ Below w.heap.size w w' := by
  obtain ⟨a, c, rfl, hn⟩ := Rd.shape h
  obtain ⟨a2, c2, rfl, hm⟩ := Rd.shape g
  obtain ⟨n, hL⟩ : ∃ n, n = L.length := ⟨_, rfl⟩
  obtain ⟨m, hM⟩ : ∃ m, m = M.length := ⟨_, rfl⟩
  rw [← hL] at h hn ⊢
  rw [← hM] at g hm ⊢
  have HL : Hid (n = L.length) := hL
  have HM : Hid (m = M.length) := hM
  clear hL hM
  have bn : n ≤ 9223372036854775807 := by unfold maxLen at hn; omega
  have bm : m ≤ 9223372036854775807 := by unfold maxLen at hm; omega
  by_cases hsum : n + m ≤ 1048576
  · have d0 : decide (n + m ≤ 1048576) = true := decide_eq_true hsum
    by_cases h1 : n ≤ 65536
    · by_cases h2 : m ≤ 65536
      · by_cases h3 : 16 * (n + m) ≤ 1048576
        · have dn : decide ((65536 : Int) < (n : Int)) = false := decide_eq_false (by omega)
          have dm : decide ((65536 : Int) < (m : Int)) = false := decide_eq_false (by omega)
          have ds : decide ((1048576 : Int) < 16 * ((n : Int) + (m : Int))) = false := decide_eq_false (by omega)
          go_enter Try.func3, Try.ntmps3
          go_wp2_with fail
          refine (zzb12 a a2 n m c c2 _ hn hm).mono ?_
          rintro e w1 ⟨rfl, rfl⟩
          rw [d0]
          go_wp2_with fail
          refine (inc13 _ h).mono ?_
          rintro e w1 ⟨rfl, b1⟩
          by_cases i1 : incB L = true
          · rw [i1]
            go_wp2_with fail
            refine (inc13 _ (g.below b1)).mono ?_
            rintro e w2 ⟨rfl, b2⟩
            by_cases i2 : incB M = true
            · rw [i2]
              have B2 := b1.trans (b2.mono b1.size)
              have sL := inc_of_incB i1
              have sM := inc_of_incB i2
              have SL : Hid (Inc L) := sL
              have SM : Hid (Inc M) := sM
              have SU : Hid (Inc (uni L M)) := inc_of_srt (uni_srt L M (srt_of_inc sL) (srt_of_inc sM))
              have WL : Hid (Wf L) := wL
              have WM : Hid (Wf M) := wM
              go_wp2_with fail
              refine (clone14 _ (by rw [← HL.out]; omega) (h.below B2)).mono ?_
              rintro e w3 ⟨v3, rfl, p3, b3⟩
              have B3 := B2.trans (b3.mono B2.size)
              go_wp2_with fail
              refine (clone14 _ (by rw [← HM.out]; omega) (g.below B3)).mono ?_
              rintro e w4 ⟨v4, rfl, p4, b4⟩
              have B4 := B3.trans (b4.mono B3.size)
              have p3 := p3.below b4
              go_wp2_with fail
              refine (copy16 _ (by rw [← HL.out]; omega) p3).mono ?_
              rintro e w5 ⟨v5, rfl, p5, b5⟩
              have B5 := B4.trans (b5.mono B4.size)
              have p3 := p3.below b5
              have p4 := p4.below b5
              go_wp2_with fail
              refine (copy16 _ (by rw [← HM.out]; omega) p4).mono ?_
              rintro e w6 ⟨v6, rfl, p6, b6⟩
              have B6 := B5.trans (b6.mono B5.size)
              have p3 := p3.below b6
              have p4 := p4.below b6
              have p5 := p5.below b6
              go_wp2_with fail
              refine (zzunion15 _ (by rw [← HL.out]; omega) (by rw [← HM.out]; omega) p5 p6).mono ?_
              rintro e w7 ⟨v7, rfl, p7, b7⟩
              have B7 := B6.trans (b7.mono B6.size)
              have pA := p3.below b7
              have pB := p4.below b7
              have pU := p7
              obtain ⟨aA, nA, cA, hvA, hnA, hfA⟩ := pA.form
              obtain ⟨aB, nB, cB, hvB, hnB, hfB⟩ := pB.form
              obtain ⟨aU, nU, cU, hvU, hnU, hfU⟩ := pU.form
              rw [← HL.out] at hnA
              rw [← HM.out] at hnB
              subst hnA hnB
              subst hvA hvB hvU
              have l1 := uni_length L M
              have l2 := uni_ge L M
              have l3 := uni_ge M L
              rw [uni_comm M L] at l3
              rw [← hnU, ← HL.out, ← HM.out] at l1
              rw [← hnU, ← HL.out] at l2
              rw [← hnU, ← HM.out] at l3
              have HU : Hid (nU = (uni L M).length) := hnU
              clear hnU p3 p4 p5 p6 p7 h g b1 b2 b3 b4 b5 b6 b7 B2 B3 B4 B5 B6 i1 i2 sL sM wL wM
              have GA : Hid (Prs w7 (.slice aA nA cA) L) := pA
              have GB : Hid (Prs w7 (.slice aB nB cB) M) := pB
              have GU : Hid (Prs w7 (.slice aU nU cU) (uni L M)) := pU
              clear pA pB pU
              have e1 : decide ((nA : Int) + (nB : Int) < (nU : Int)) = false := decide_eq_false (by omega)
              have e2 : decide (nU < nA) = false := decide_eq_false (by omega)
              have e3 : decide (nU < nB) = false := decide_eq_false (by omega)
              have FA : Hid _ := hfA
              have FB : Hid _ := hfB
              have FU : Hid _ := hfU
              clear hfA hfB hfU
              go_wp2
              go_loopw [6] (fun i wr => ∃ k : Nat, 1 ≤ k ∧ k ≤ nU + 1 ∧ i = .int .i64 k ∧ Below w7.heap.size w7 wr) (fun i _ => nU + 1 - (intOf i).toNat)
              case atStart => exact ⟨1, by omega, by omega, rfl, Below.refl _ _⟩
              case round =>
                obtain ⟨k, hk1, hk2, rfl, hbel⟩ := hrel
                by_cases hlt : k < nU
                · obtain ⟨b, off, hau, hb, hc, hd⟩ := FU.out (by omega)
                  subst hau
                  have c0 := (hbel.cell (p := ⟨b, off + (k - 1) * 2, none⟩) (by exact hb)).trans (hc (k - 1) (by omega))
                  have c1 := (hbel.cell (p := ⟨b, off + k * 2, none⟩) (by exact hb)).trans (hc k (by omega))
                  have hlx := SU.out (k - 1) k (by omega) (by rw [← HU.out]; exact hlt)
                  clear hc hd
                  go_wp2
                  go_region
                  go_wp2
                  go_roundw
                  case rel => exact ⟨k + 1, by omega, by omega, by go_num, hbel.drew⟩
                  case measure => simp [intOf]; omega
                · clear hk1 hk2
                  obtain ⟨W2, hW2⟩ : ∃ W, W = wr := ⟨_, rfl⟩
                  go_wp2
                  go_loopw [7] (fun i wr => ∃ k : Nat, k ≤ nU ∧ i = .int .i64 k ∧ Below w7.heap.size w7 wr) (fun i _ => nU - (intOf i).toNat)
                  case atStart => exact ⟨0, by omega, rfl, hbel⟩
                  case round =>
                    clear hbel hlt hW2
                    obtain ⟨k2, hk2, rfl, hbel⟩ := hrel
                    by_cases hlt : k2 < nU
                    · obtain ⟨b, off, hau, hb, hc, hd⟩ := FU.out (by omega)
                      subst hau
                      have c0 := (hbel.cell (p := ⟨b, off + k2 * 2, none⟩) (by exact hb)).trans (hc k2 (by omega))
                      have c1 := (hbel.cell (p := ⟨b, off + k2 * 2 + 1, none⟩) (by exact hb)).trans (hd k2 (by omega))
                      have f := law3_bits SL.out SM.out WL.out WM.out (k := k2) (by rw [← HU.out]; exact hlt)
                      have ha := find17 (ix (uni L M) k2) wr (by rw [← HL.out]; omega) SL.out (GA.out.below hbel)
                      obtain ⟨pa, qa, hfa⟩ : ∃ p q, fnd L (ix (uni L M) k2) = (p, q) := ⟨_, _, rfl⟩
                      obtain ⟨pb, qb, hfb⟩ : ∃ p q, fnd M (ix (uni L M) k2) = (p, q) := ⟨_, _, rfl⟩
                      rw [hfa, hfb] at f
                      rw [hfa] at ha
                      have HB : Hid (fnd M (ix (uni L M) k2) = (pb, qb)) := hfb
                      have F1 : Hid ((qa || qb) = true) := f.1
                      have F2 : (bt (uni L M) k2 != bits .or .u64 pa pb) = false := by rw [f.2]; unfold orU; simp
                      have HA : Hid _ := ha
                      clear hc hd hfa hfb f ha
                      go_wp2_with fail
                      refine Calls.mono HA.out ?_
                      rintro e w8 ⟨rfl, b8⟩
                      clear HA
                      have c0 := (b8.cell (p := ⟨b, off + k2 * 2, none⟩) (by exact Nat.lt_of_lt_of_le hb hbel.size)).trans c0
                      have c1 := (b8.cell (p := ⟨b, off + k2 * 2 + 1, none⟩) (by exact Nat.lt_of_lt_of_le hb hbel.size)).trans c1
                      have hbel := hbel.trans (b8.mono hbel.size)
                      clear b8
                      go_wp2_with fail
                      have hq := find17 (ix (uni L M) k2) w8 (by rw [← HM.out]; omega) SM.out (GB.out.below hbel)
                      rw [HB.out] at hq
                      refine hq.mono ?_
                      clear hq
                      rintro e w9 ⟨rfl, b9⟩
                      have c1 := (b9.cell (p := ⟨b, off + k2 * 2 + 1, none⟩) (by exact Nat.lt_of_lt_of_le hb hbel.size)).trans c1
                      have hbel := hbel.trans (b9.mono hbel.size)
                      clear b9 c0
                      cases qa <;> cases qb
                      · exact absurd F1.out (by decide)
                      all_goals
                        go_wp2
                        go_roundw
                        case rel => exact ⟨k2 + 1, by omega, by go_num, hbel⟩
                        case measure => simp [intOf]; omega
                    · go_wp2
                      go_loopw [12] (fun i wr => ∃ k : Nat, k ≤ nA ∧ i = .int .i64 k ∧ Below w7.heap.size w7 wr) (fun i _ => nA - (intOf i).toNat)
                      case atStart => exact ⟨0, by omega, rfl, hbel⟩
                      case round =>
                        clear hbel hlt
                        obtain ⟨k3, hk3, rfl, hbel⟩ := hrel
                        by_cases hlt : k3 < nA
                        · obtain ⟨b, off, hau, hb, hc, hd⟩ := FA.out (by omega)
                          subst hau
                          have c0 := (hbel.cell (p := ⟨b, off + k3 * 2, none⟩) (by exact hb)).trans (hc k3 (by omega))
                          have ha := find18 (ix L k3) wr (by rw [← HU.out]; omega) SU.out (GU.out.below hbel)
                          have f := law3_left SL.out SM.out WL.out WM.out (k := k3) (by rw [← HL.out]; exact hlt)
                          obtain ⟨pa, qa, hfa⟩ : ∃ p q, fnd (uni L M) (ix L k3) = (p, q) := ⟨_, _, rfl⟩
                          rw [hfa] at f ha
                          have f : qa = true := f
                          subst f
                          have HA : Hid _ := ha
                          clear hc hd hfa ha
                          go_wp2_with fail
                          refine Calls.mono HA.out ?_
                          rintro e w8 ⟨rfl, b8⟩
                          have hbel := hbel.trans (b8.mono hbel.size)
                          clear HA b8 c0
                          go_wp2
                          go_roundw
                          case rel => exact ⟨k3 + 1, by omega, by go_num, hbel⟩
                          case measure => simp [intOf]; omega
                        · go_wp2
                          go_loopw [15] (fun i wr => ∃ k : Nat, k ≤ nB ∧ i = .int .i64 k ∧ Below w7.heap.size w7 wr) (fun i _ => nB - (intOf i).toNat)
                          case atStart => exact ⟨0, by omega, rfl, hbel⟩
                          case round =>
                            clear hbel hlt
                            obtain ⟨k4, hk4, rfl, hbel⟩ := hrel
                            by_cases hlt : k4 < nB
                            · obtain ⟨b, off, hau, hb, hc, hd⟩ := FB.out (by omega)
                              subst hau
                              have c0 := (hbel.cell (p := ⟨b, off + k4 * 2, none⟩) (by exact hb)).trans (hc k4 (by omega))
                              have ha := find18 (ix M k4) wr (by rw [← HU.out]; omega) SU.out (GU.out.below hbel)
                              have f := law3_right SL.out SM.out WL.out WM.out (k := k4) (by rw [← HM.out]; exact hlt)
                              obtain ⟨pa, qa, hfa⟩ : ∃ p q, fnd (uni L M) (ix M k4) = (p, q) := ⟨_, _, rfl⟩
                              rw [hfa] at f ha
                              have f : qa = true := f
                              subst f
                              have HA : Hid _ := ha
                              clear hc hd hfa ha
                              go_wp2_with fail
                              refine Calls.mono HA.out ?_
                              rintro e w8 ⟨rfl, b8⟩
                              have hbel := hbel.trans (b8.mono hbel.size)
                              clear HA b8 c0
                              go_wp2
                              go_roundw
                              case rel => exact ⟨k4 + 1, by omega, by go_num, hbel⟩
                              case measure => simp [intOf]; omega
                            · go_wp2
                              go_ret
                              exact ⟨rfl, B7.trans (hbel.mono B7.size)⟩
            · rw [Bool.eq_false_iff.2 i2]
              go_wp2
              go_ret
              exact ⟨rfl, b1.trans (b2.mono b1.size)⟩
          · rw [Bool.eq_false_iff.2 i1]
            go_wp2
            go_ret
            exact ⟨rfl, b1⟩
        · have h3' : 1048576 < 16 * ((n : Int) + (m : Int)) := by omega
          go_enter Try.func3, Try.ntmps3
          go_wp2_with fail
          refine (zzb12 a a2 n m c c2 _ hn hm).mono ?_
          rintro e w1 ⟨rfl, rfl⟩
          rw [d0]
          go_wp2
          go_ret
          exact ⟨rfl, Below.refl _ _⟩
      · have h2' : decide ((65536 : Int) < (m : Int)) = true := decide_eq_true (by omega)
        go_enter Try.func3, Try.ntmps3
        go_wp2_with fail
        refine (zzb12 a a2 n m c c2 _ hn hm).mono ?_
        rintro e w1 ⟨rfl, rfl⟩
        rw [d0]
        go_wp2
        go_ret
        exact ⟨rfl, Below.refl _ _⟩
    · have h1' : decide ((65536 : Int) < (n : Int)) = true := decide_eq_true (by omega)
      go_enter Try.func3, Try.ntmps3
      go_wp2_with fail
      refine (zzb12 a a2 n m c c2 _ hn hm).mono ?_
      rintro e w1 ⟨rfl, rfl⟩
      rw [d0]
      go_wp2
      go_ret
      exact ⟨rfl, Below.refl _ _⟩
  · have d0 : decide (n + m ≤ 1048576) = false := decide_eq_false hsum
    go_enter Try.func3, Try.ntmps3
    go_wp2_with fail
    refine (zzb12 a a2 n m c c2 _ hn hm).mono ?_
    rintro e w1 ⟨rfl, rfl⟩
    rw [d0]
    go_wp2
    go_ret
    exact ⟨rfl, Below.refl _ _⟩

end Go.Proofs.Qxb6600021a
