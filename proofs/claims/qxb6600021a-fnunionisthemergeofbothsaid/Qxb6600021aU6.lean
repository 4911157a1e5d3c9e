/-
  ZZUnion (15); FnUnionCommutesAndAbsorbs (4).
-/
import Derived.Test.Qxb6600021aU1
import Derived.Test.Qxb6600021aU3
import Derived.Test.Qxb6600021aU5
namespace Go.Proofs.Qxb6600021a
open Go.RowKit
set_option linter.unusedVariables false

set_option maxHeartbeats 400000 in
theorem zzunion15 {v u : Value} {L M : List (Int × Int)} (w : World) (hs : L.length ≤ 262144) (ht : M.length ≤ 262144) (h : Prs w v L) (g : Prs w u M) :
    Calls Try.prog 15 #[v, u] w fun e w' => ∃ v', e = .returned v' ∧ Prs w' v' (uni L M) ∧ Below w.heap.size w w' := by
  have hl := uni_length L M
  go_enter Try.func15, Try.ntmps15
  go_wp2_with fail
  refine (copy52 _ (by omega) h).mono ?_
  rintro e w1 ⟨v1, rfl, p1, b1⟩
  go_wp2_with fail
  refine (copy52 _ (by omega) (g.below b1)).mono ?_
  rintro e w2 ⟨v2, rfl, p2, b2⟩
  go_wp2_with fail
  refine (union53 _ (by omega) (by omega) (p1.below b2) p2).mono ?_
  rintro e w3 ⟨v3, rfl, p3, b3⟩
  go_wp2_with fail
  refine (copy51 _ (by omega) p3).mono ?_
  rintro e w4 ⟨v4, rfl, p4, b4⟩
  go_wp2
  go_ret
  exact ⟨_, rfl, p4, (b1.trans (b2.mono b1.size)).trans ((b3.mono (Nat.le_trans b1.size b2.size)).trans (b4.mono (Nat.le_trans (Nat.le_trans b1.size b2.size) b3.size)))⟩


set_option maxHeartbeats 1000000 in
theorem law4 {v u : Value} {L M : List (Int × Int)} (w : World) (h : Prs w v L) (g : Prs w u M) (wL : Wf L) :
    Calls Try.prog 4 #[v, u] w fun e w' => e = .returned (.bool true) ∧ Below w.heap.size w w' := by
  obtain ⟨a, c, rfl, hn⟩ := Rd.shape h
  obtain ⟨a2, c2, rfl, hm⟩ := Rd.shape g
  obtain ⟨n, hL⟩ : ∃ n, n = L.length := ⟨_, rfl⟩
  obtain ⟨m, hM⟩ : ∃ m, m = M.length := ⟨_, rfl⟩
  rw [← hL] at h hn ⊢
  rw [← hM] at g hm ⊢
  have HL : Hid (n = L.length) := hL
  have HM : Hid (m = M.length) := hM
  clear hL hM
  have bn : n ≤ 9223372036854775807 := by unfold maxLen at hn; omega
  have bm : m ≤ 9223372036854775807 := by unfold maxLen at hm; omega
  by_cases hsum : n + m ≤ 1048576
  · have d0 : decide (n + m ≤ 1048576) = true := decide_eq_true hsum
    by_cases h1 : n ≤ 65536
    · by_cases h2 : m ≤ 65536
      · by_cases h3 : 16 * (n + m) ≤ 1048576
        · have hle := uni_length L M
          go_enter Try.func4, Try.ntmps4
          go_wp2_with fail
          refine (zzb19 a a2 n m c c2 _ hn hm).mono ?_
          rintro e w1 ⟨rfl, rfl⟩
          rw [d0]
          go_wp2_with fail
          refine (inc13 _ h).mono ?_
          rintro e w1 ⟨rfl, b1⟩
          by_cases i1 : incB L = true
          · rw [i1]
            go_wp2_with fail
            refine (inc13 _ (g.below b1)).mono ?_
            rintro e w2 ⟨rfl, b2⟩
            by_cases i2 : incB M = true
            · rw [i2]
              have B2 := b1.trans (b2.mono b1.size)
              go_wp2_with fail
              refine (clone14 _ (by rw [← HL.out]; omega) (h.below B2)).mono ?_
              rintro e w3 ⟨v3, rfl, p3, b3⟩
              have B3 := B2.trans (b3.mono B2.size)
              go_wp2_with fail
              refine (clone14 _ (by rw [← HM.out]; omega) (g.below B3)).mono ?_
              rintro e w4 ⟨v4, rfl, p4, b4⟩
              have B4 := B3.trans (b4.mono B3.size)
              have p3 := p3.below b4
              go_wp2_with fail
              refine (copy16 _ (by rw [← HL.out]; omega) p3).mono ?_
              rintro e w5 ⟨v5, rfl, p5, b5⟩
              have B5 := B4.trans (b5.mono B4.size)
              have p4 := p4.below b5
              go_wp2_with fail
              refine (copy16 _ (by rw [← HM.out]; omega) p4).mono ?_
              rintro e w6 ⟨v6, rfl, p6, b6⟩
              have B6 := B5.trans (b6.mono B5.size)
              have p5 := p5.below b6
              clear p3 p4 h g b1 b2 b3 b4 b5 b6 B2 B3 B4 B5 i1 i2
              go_wp2_with fail
              refine (zzunion15 _ (by rw [← HL.out]; omega) (by rw [← HM.out]; omega) p5 p6).mono ?_
              rintro e w7 ⟨v7, rfl, p7, b7⟩
              have B7 := B6.trans (b7.mono B6.size)
              have p5 := p5.below b7
              have p6 := p6.below b7
              go_wp2_with fail
              refine (zzunion15 _ (by rw [← HM.out]; omega) (by rw [← HL.out]; omega) p6 p5).mono ?_
              rintro e w8 ⟨v8, rfl, p8, b8⟩
              have B8 := B7.trans (b8.mono B7.size)
              have p5 := p5.below b8
              have p7 := p7.below b8
              go_wp2_with fail
              refine (same20 _ p7 p8).mono ?_
              rintro e w9 ⟨rfl, b9⟩
              rw [decide_eq_true (uni_comm L M)]
              have B9 := B8.trans (b9.mono B8.size)
              have p5 := p5.below b9
              clear p6 p7 p8 b7 b8 b9 B6 B7 B8
              go_wp2_with fail
              refine (zzunion15 _ (by rw [← HL.out]; omega) (by rw [← HL.out]; omega) p5 p5).mono ?_
              rintro e wa ⟨va, rfl, pa, ba⟩
              have Ba := B9.trans (ba.mono B9.size)
              have p5 := p5.below ba
              go_wp2_with fail
              refine (same20 _ pa p5).mono ?_
              rintro e wb ⟨rfl, bb⟩
              rw [decide_eq_true (uni_self L wL)]
              have Bb := Ba.trans (bb.mono Ba.size)
              have p5 := p5.below bb
              clear pa ba bb B9 Ba
              go_wp2_with fail
              refine (zzunion15 (M := []) _ (by rw [← HL.out]; omega) (Nat.zero_le _) p5 (Rd.nil _ 2)).mono ?_
              rintro e wc ⟨vc, rfl, pc, bc⟩
              have Bc := Bb.trans (bc.mono Bb.size)
              have p5 := p5.below bc
              go_wp2_with fail
              refine (same20 _ pc p5).mono ?_
              rintro e wd ⟨rfl, bd⟩
              rw [decide_eq_true (uni_nil' L)]
              have Bd := Bc.trans (bd.mono Bc.size)
              go_wp2
              go_ret
              exact ⟨rfl, Bd⟩
            · rw [Bool.eq_false_iff.2 i2]
              go_wp2
              go_ret
              exact ⟨rfl, b1.trans (b2.mono b1.size)⟩
          · rw [Bool.eq_false_iff.2 i1]
            go_wp2
            go_ret
            exact ⟨rfl, b1⟩
        · have h3' : 1048576 < 16 * ((n : Int) + (m : Int)) := by omega
          go_enter Try.func4, Try.ntmps4
          go_wp2_with fail
          refine (zzb19 a a2 n m c c2 _ hn hm).mono ?_
          rintro e w1 ⟨rfl, rfl⟩
          rw [d0]
          go_wp2
          go_ret
          exact ⟨rfl, Below.refl _ _⟩
      · have h2' : decide ((65536 : Int) < (m : Int)) = true := decide_eq_true (by omega)
        go_enter Try.func4, Try.ntmps4
        go_wp2_with fail
        refine (zzb19 a a2 n m c c2 _ hn hm).mono ?_
        rintro e w1 ⟨rfl, rfl⟩
        rw [d0]
        go_wp2
        go_ret
        exact ⟨rfl, Below.refl _ _⟩
    · have h1' : decide ((65536 : Int) < (n : Int)) = true := decide_eq_true (by omega)
      go_enter Try.func4, Try.ntmps4
      go_wp2_with fail
      refine (zzb19 a a2 n m c c2 _ hn hm).mono ?_
      rintro e w1 ⟨rfl, rfl⟩
      rw [d0]
      go_wp2
      go_ret
      exact ⟨rfl, Below.refl _ _⟩
  · have d0 : decide (n + m ≤ 1048576) = false := decide_eq_false hsum
    go_enter Try.func4, Try.ntmps4
    go_wp2_with fail
    refine (zzb19 a a2 n m c c2 _ hn hm).mono ?_
    rintro e w1 ⟨rfl, rfl⟩
    rw [d0]
    go_wp2
    go_ret
    exact ⟨rfl, Below.refl _ _⟩

end Go.Proofs.Qxb6600021a
