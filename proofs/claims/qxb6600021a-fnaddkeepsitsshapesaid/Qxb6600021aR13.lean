/-
  FnAddKeepsItsShape (8): the walk.
-/
import Derived.Test.Qxb6600021aR12
import Derived.Deep.DeepCutAuto
namespace Go.Proofs.Qxb6600021a
open Go.RowKit
set_option linter.unusedVariables false

set_option maxHeartbeats 2000000 in
set_option maxRecDepth 100000 in
theorem law8 {v0 v2 v3 : Value} {ws is bs : List Int} (own : Bool) (w : World) (g0 : Ns .u64 w v0 ws) (g2 : Ns .i64 w v2 is) (g3 : Ns .u64 w v3 bs) :
    Calls Try.prog 8 #[v0, .bool own, v2, v3] w fun e w' => e = .returned (.bool true) ∧ Below w.heap.size w w' := by
  obtain ⟨a0, n0, c0, rfl, hN0, _, hM0, hf0⟩ := g0.form
  obtain ⟨a2, n2, c2, rfl, hN2, _, hM2, hf2⟩ := g2.form
  obtain ⟨a3, n3, c3, rfl, hN3, _, hM3, hf3⟩ := g3.form
  have H0 : Hid (n0 = ws.length) := hN0
  have H2 : Hid (n2 = is.length) := hN2
  have H3 : Hid (n3 = bs.length) := hN3
  clear hN0 hN2 hN3 hf0 hf2 hf3
  have bn0 : n0 ≤ 9223372036854775807 := by unfold maxLen at hM0; omega
  have bn2 : n2 ≤ 9223372036854775807 := by unfold maxLen at hM2; omega
  have bn3 : n3 ≤ 9223372036854775807 := by unfold maxLen at hM3; omega
  by_cases hsum : n0 + n2 + n3 ≤ 1048576
  · have d0 : decide (n0 + n2 + n3 ≤ 1048576) = true := decide_eq_true hsum
    by_cases h0 : n0 ≤ 65536
    · have e0 : decide ((65536 : Int) < (n0 : Int)) = false := decide_eq_false (by omega)
      by_cases h2 : n2 ≤ 65536
      · have e2 : decide ((65536 : Int) < (n2 : Int)) = false := decide_eq_false (by omega)
        by_cases h3 : n3 ≤ 65536
        · have e3 : decide ((65536 : Int) < (n3 : Int)) = false := decide_eq_false (by omega)
          by_cases h4 : 8 * (n0 + n2 + n3) ≤ 1048576
          · have e4 : decide ((1048576 : Int) < 8 * ((n0 : Int) + (n2 : Int) + (n3 : Int))) = false := decide_eq_false (by omega)
            go_enter Try.func8, Try.ntmps8
            go_wp2_with fail
            refine (zzb35 a0 a2 a3 n0 n2 n3 c0 c2 c3 own _ hM0 hM2 hM3).mono ?_
            rintro e w1 ⟨rfl, rfl⟩
            rw [d0]
            go_wp2_with fail
            refine (slen23 a2 a3 n2 n3 c2 c3 _ hM2 hM3).mono ?_
            rintro e w1 ⟨rfl, rfl⟩
            obtain ⟨m, hm⟩ : ∃ m, m = min n2 n3 := ⟨_, rfl⟩
            rw [← hm]
            have hm2 : m ≤ n2 := by omega
            have hm3 : m ≤ n3 := by omega
            clear hm
            go_wp2_with fail
            refine (inR24 m _ (by omega) g2).mono ?_
            rintro e w1 ⟨rfl, b1⟩
            by_cases i1 : inR is m = true
            · rw [i1]
              have hr : ∀ k, k < m → 0 ≤ wd is k ∧ wd is k ≤ 65536 := fun k hk => of_decide_eq_true i1 k hk (by rw [← H2.out]; omega)
              have HRg : Hid _ := hr
              clear hr i1
              go_wp2_with fail
              refine (clone26 _ (by rw [← H0.out]; omega) (g0.below b1)).mono ?_
              rintro e w2 ⟨u0, rfl, p0, b2⟩
              have B2 := b1.trans (b2.mono b1.size)
              go_wp2_with fail
              refine (clone27 _ (by rw [← H2.out]; omega) (g2.below B2)).mono ?_
              rintro e w3 ⟨u2, rfl, p2, b3⟩
              have B3 := B2.trans (b3.mono B2.size)
              go_wp2_with fail
              refine (clone26 _ (by rw [← H3.out]; omega) (g3.below B3)).mono ?_
              rintro e w4 ⟨u3, rfl, p3, b4⟩
              have B4 := B3.trans (b4.mono B3.size)
              have q0 : Ns .u64 w4 u0 ws := ((Ns.ofOwn p0).below b3).below b4
              have q2 : Ns .i64 w4 u2 is := (Ns.ofOwn p2).below b4
              have q3 : Ns .u64 w4 u3 bs := Ns.ofOwn p3
              clear p0 p2 p3 b1 b2 b3 b4 B2 B3 g0 g2 g3
              go_wp2_with fail
              refine (clone26 _ (by rw [← H0.out]; omega) q0).mono ?_
              rintro e w5 ⟨u5, rfl, p5, b5⟩
              go_wp2_with fail
              refine (new28 (base := w4.heap.size) (ws := ws) own _ b5.size p5).mono ?_
              rintro e w6 ⟨R, rfl, r6, b6⟩
              have B6 : Below w4.heap.size w4 w6 := b5.trans (b6.mono b5.size)
              clear p5 b5 b6
              go_wp2_with fail
              refine (zlen30 _ r6 (by rw [← H0.out]; omega) (by simp) (fun j hj => by simp at hj)).mono ?_
              rintro e w7 ⟨rfl, b7⟩
              have r7 : RunS w7 w4.heap.size R ⟨ws, own, []⟩ := ⟨_, _, r6.below b7⟩
              have B7 : Below w4.heap.size w4 w7 := B6.trans (b7.mono B6.size)
              have hl0 : runLen ws [] = (n0 : Int) := by rw [runLen_nil, ← H0.out]
              rw [hl0]
              have hI0 : Inv ⟨ws, own, []⟩ := ⟨fun _ => rfl, by show ([] : List (Int × Int)).length ≤ 8; simp, fun a c _ h2 => by simp at h2, fun j hj => by simp at hj, by show ws.length ≤ 65537; rw [← H0.out]; omega⟩
              have HI : Hid (∀ k, k ≤ m → Inv (steps ⟨ws, own, []⟩ is bs k)) := fun k hk => steps_inv hI0 HRg.out k hk
              have hl1 : len (steps ⟨ws, own, []⟩ is bs 0) = (n0 : Int) := hl0
              have HL1 : Hid _ := hl1
              have H7 : Hid (RunS w7 w4.heap.size R ⟨ws, own, []⟩) := r7
              obtain ⟨a0', n0', c0', hv0, hn0', _, _, _⟩ := q0.form
              obtain ⟨a2', n2', c2', hv2, hn2', _, _, hf2⟩ := q2.form
              obtain ⟨a3', n3', c3', hv3, hn3', _, _, hf3⟩ := q3.form
              rw [← H0.out] at hn0'
              rw [← H2.out] at hn2'
              rw [← H3.out] at hn3'
              subst hn0' hn2' hn3'
              subst hv0 hv2 hv3
              have HF2 : Hid _ := hf2
              have HF3 : Hid _ := hf3
              clear q0 q2 q3 hf2 hf3 r6 r7 b7 B6 hl0 hl1 hI0
              have t0 : ((n0' : Int) != (n0' : Int)) = false := by simp
              go_wp2
              go_loopg [11, 12, 13] m (fun gn sp so sk wr => ∃ k : Nat, k + gn = m ∧ sk = .int .i64 k ∧ sp = .int .i64 (len (steps ⟨ws, own, []⟩ is bs k)) ∧ so = .bool (steps ⟨ws, own, []⟩ is bs k).own ∧ RunS wr w4.heap.size R (steps ⟨ws, own, []⟩ is bs k) ∧ Below w4.heap.size w4 wr)
              case atStart => exact ⟨0, by omega, rfl, by rw [HL1.out], rfl, H7.out, B7⟩
              case round =>
                obtain ⟨G0, hG0⟩ : ∃ G0, G0 = gk := ⟨_, rfl⟩
                subst hG0
                obtain ⟨wq, hwq⟩ : ∃ wq, wq = wr := ⟨_, rfl⟩
                subst hwq
                obtain ⟨k, hkg, rfl, rfl, rfl, hrun, hbel⟩ := hrel
                clear B7
                have HKG : Hid (k + G0 = m) := hkg
                have hk : k ≤ m := by omega
                have hgk : k < m → 0 < G0 := by omega
                clear hkg
                by_cases hlt : k < m
                · obtain ⟨b2, o2, ha2, hb2, hc2⟩ := HF2.out (by omega)
                  obtain ⟨b3, o3, ha3, hb3, hc3⟩ := HF3.out (by omega)
                  subst ha2 ha3
                  have x2 := (hbel.cell (p := ⟨b2, o2 + k, none⟩) (by exact hb2)).trans (hc2 k (by omega))
                  have x3 := (hbel.cell (p := ⟨b3, o3 + k, none⟩) (by exact hb3)).trans (hc3 k (by omega))
                  have hr := HRg.out k hlt
                  obtain ⟨i, hi⟩ : ∃ i : Nat, wd is k = (i : Int) := ⟨(wd is k).toNat, by omega⟩
                  have hin : i ≤ 65536 := by omega
                  have hst : steps ⟨ws, own, []⟩ is bs (k + 1) = addSt (steps ⟨ws, own, []⟩ is bs k) i (wd bs k) := by
                    show addSt _ (wd is k).toNat _ = _
                    rw [hi, Int.toNat_natCast]
                  have hsh := add_shape _ (HI.out k hk) i (wd bs k) hin
                  rw [← hst] at hsh
                  have hadd := fun (W : World) (hR : RunS W w4.heap.size R (steps ⟨ws, own, []⟩ is bs k)) => zadd29 i (wd bs k) W hR (HI.out k hk) hin
                  rw [← hst] at hadd
                  rw [hi] at x2
                  clear hc2 hc3 hr hi hst
                  generalize hS : steps ⟨ws, own, []⟩ is bs k = S at *
                  generalize hS' : steps ⟨ws, own, []⟩ is bs (k + 1) = S' at *
                  obtain ⟨l, hl⟩ : ∃ l, l = len S := ⟨_, rfl⟩
                  obtain ⟨l', hl'⟩ : ∃ l', l' = len S' := ⟨_, rfl⟩
                  have HRun : Hid (RunS wq w4.heap.size R S) := hrun
                  have HAdd : Hid _ := hadd
                  have hlb := len_bounds _ hsh.1
                  rw [← hl'] at hlb
                  rw [← hl, ← hl'] at hsh
                  rw [← hl]
                  obtain ⟨hinv, hil, hll, hoo⟩ := hsh
                  have HInv : Hid (Inv S') := hinv
                  have HLb : Hid _ := hlb
                  have HS : Hid _ := hS
                  have HS' : Hid _ := hS'
                  have HL' : Hid (l' = len S') := hl'
                  obtain ⟨ow, how⟩ : ∃ ow, ow = S.own := ⟨_, rfl⟩
                  obtain ⟨ow', how'⟩ : ∃ ow', ow' = S'.own := ⟨_, rfl⟩
                  rw [← how, ← how'] at hoo
                  rw [← how]
                  have HOw' : Hid (ow' = S'.own) := how'
                  clear hadd hrun hl hl' hS hS' hinv hlb how how'
                  go_upto_region 21 with fail
                  go_cut [] (fun wx => RunS wx w4.heap.size R S' ∧ Below w4.heap.size wq wx)
                  case first =>
                    go_region_with (go_at_call 29; refine Calls.mono (HAdd.out _ ?_) ?_; exact RunS.drew HRun.out; rintro e w8 ⟨rfl, r8, b8⟩)
                    all_goals (go_wp2_with fail; go_meet; exact ⟨r8, (Below.refl _ _).drew.trans b8⟩)
                  case rest =>
                  obtain ⟨r8, b8⟩ := hcut
                  have hb8 : Below w4.heap.size w4 wc := hbel.trans b8
                  have x2' := (b8.cell (p := ⟨b2, o2 + k, none⟩) (by exact hb2)).trans x2
                  obtain ⟨vw, vc, r8⟩ := r8
                  have HR8 : Hid (Run wc w4.heap.size R S'.ws S'.own S'.ch vw vc) := r8
                  clear b8 r8 x2 x3
                  go_wp2_with fail
                  refine (zlen30 _ HR8.out (by have := HInv.out.wsl; omega) HInv.out.few HInv.out.rng).mono ?_
                  rintro e w9 ⟨rfl, b9⟩
                  rw [show runLen S'.ws S'.ch = l' from HL'.out.symm]
                  have HR9 : Hid (Run w9 w4.heap.size R S'.ws S'.own S'.ch vw vc) := HR8.out.below b9
                  have hb9 := hb8.trans (b9.mono hb8.size)
                  have x2 := (b9.cell (p := ⟨b2, o2 + k, none⟩) (by exact Nat.lt_of_lt_of_le hb2 hb8.size)).trans x2'
                  have s1 : ¬ l' ≤ (i : Int) := by omega
                  have s2 : ¬ l' < l := by omega
                  clear b9 x2' HR8
                  go_wp2_with fail
                  refine (owned36 _ HR9.out).mono ?_
                  rintro e w10 ⟨rfl, rfl⟩
                  rw [← HOw'.out]
                  have hown0 : ow' = true → S'.ch.length ≤ 0 := fun e => by rw [HInv.out.own (by rw [← HOw'.out]; exact e)]; simp
                  have hch := fun (W : World) (hR : Run W w4.heap.size R S'.ws S'.own S'.ch vw vc) => changed32 W hR HInv.out.few
                  have HCh : Hid _ := hch
                  obtain ⟨n, hn⟩ : ∃ n, n = S'.ch.length := ⟨_, rfl⟩
                  have hn8 := HInv.out.few
                  rw [← hn] at hown0 hn8
                  have HNn : Hid (n = S'.ch.length) := hn
                  clear hn hch
                  have HIx : Hid (∀ j, j < n → 0 ≤ ix S'.ch j ∧ ix S'.ch j < l') := fun j hj => ⟨(HInv.out.rng j (by rw [← HNn.out]; exact hj)).1, HLb.out.2.2 j (by rw [← HNn.out]; exact hj)⟩
                  have HInc : Hid (∀ j, 1 ≤ j → j < n → ix S'.ch (j - 1) < ix S'.ch j) := fun j h1 h2 => HInv.out.inc (j - 1) j (by omega) (by rw [← HNn.out]; exact h2)
                  have ho2 : ow = true → ow' = true := hoo
                  clear hoo
                  cases ow <;> cases ow'
                  case true.false => exact absurd (ho2 rfl) (by decide)
                  case false.false =>
                    clear ho2 hown0
                    go_wp2_with fail
                    refine Calls.mono (HCh.out _ HR9.out) ?_
                    rintro e w11 ⟨v11, rfl, p11, b11⟩
                    have HR11 : Hid (Run w11 w4.heap.size R S'.ws S'.own S'.ch vw vc) := HR9.out.below b11
                    have hb11 := hb9.trans (b11.mono hb9.size)
                    obtain ⟨a11, n11, c11, hv11, hn11, hf11⟩ := Prs.form2 p11
                    rw [← HNn.out] at hn11
                    subst hn11
                    subst hv11
                    have HF11 : Hid _ := hf11
                    have t8 : decide ((8 : Int) < (n11 : Int)) = false := decide_eq_false (by omega)
                    clear p11 hf11 b11 HCh x2
                    go_wp2
                    go_loopg [17] n11 (fun g2 sc wx => ∃ c : Nat, c + g2 = n11 ∧ sc = .int .i64 c ∧ Below w11.heap.size w11 wx)
                    case atStart => exact ⟨0, by omega, rfl, Below.refl _ _⟩
                    case round =>
                      obtain ⟨c, hcg, rfl, hbc⟩ := hrel
                      have HCG : Hid _ := hcg
                      have hc1 : c ≤ n11 := by omega
                      have hc2 : c < n11 → 0 < gk := by omega
                      clear hcg
                      by_cases hcn : c < n11
                      · obtain ⟨bb, oo, haa, hbb, hcc, hdd⟩ := HF11.out (by omega)
                        subst haa
                        have y1 := (hbc.cell (p := ⟨bb, oo + c * 2, none⟩) (by exact hbb)).trans (hcc c hcn)
                        have yb := HIx.out c hcn
                        have yb1 : ¬ ix S'.ch c < 0 := by omega
                        have yb2 : ¬ l' ≤ ix S'.ch c := by omega
                        by_cases hc0 : 1 ≤ c
                        · have y0 := (hbc.cell (p := ⟨bb, oo + (c - 1) * 2, none⟩) (by exact hbb)).trans (hcc (c - 1) (by omega))
                          have yi := HInc.out c hc0 hcn
                          have yi' : decide (ix S'.ch c ≤ ix S'.ch (c - 1)) = false := decide_eq_false (by omega)
                          have y2 : (0 : Int) < (c : Int) := by omega
                          have y4 : 0 < c := by omega
                          have y5 : decide (0 < c) = true := decide_eq_true y4
                          clear hcc hdd
                          go_wp2
                          go_quiet (fail)
                          go_wp2
                          go_roundg (gk - 1)
                          case measure => have := hc2 hcn; omega
                          case rel => exact ⟨c + 1, by have := HCG.out; have := hc2 hcn; omega, by go_num, below_drewN hbc _⟩
                        · have y2 : decide ((0 : Int) < (c : Int)) = false := decide_eq_false (by omega)
                          have y3 : decide (0 < c) = false := decide_eq_false (by omega)
                          clear hcc hdd
                          go_wp2
                          go_quiet (fail)
                          go_wp2
                          go_roundg (gk - 1)
                          case measure => have := hc2 hcn; omega
                          case rel => exact ⟨c + 1, by have := HCG.out; have := hc2 hcn; omega, by go_num, below_drewN hbc _⟩
                      · have hb12 := hb11.trans (hbc.mono hb11.size)
                        have r12 : RunS wr w4.heap.size R S' := ⟨vw, vc, HR11.out.below hbc⟩
                        have H12 : Hid _ := r12
                        clear hbc r12
                        go_wp2
                        go_roundg (G0 - 1)
                        case measure => have := hgk hlt; omega
                        case rel => exact ⟨k + 1, by have := HKG.out; have := hgk hlt; omega, by go_num, by rw [HS'.out, ← HL'.out], by rw [HS'.out, ← HOw'.out], by rw [HS'.out]; exact H12.out, hb12⟩
                  all_goals
                    have hn0 : n ≤ 0 := hown0 rfl
                    clear ho2 hown0
                    go_wp2_with fail
                    refine Calls.mono (HCh.out _ HR9.out) ?_
                    rintro e w11 ⟨v11, rfl, p11, b11⟩
                    have HR11 : Hid (Run w11 w4.heap.size R S'.ws S'.own S'.ch vw vc) := HR9.out.below b11
                    have hb11 := hb9.trans (b11.mono hb9.size)
                    obtain ⟨a11, n11, c11, hv11, hn11, hf11⟩ := Prs.form2 p11
                    rw [← HNn.out] at hn11
                    subst hn11
                    subst hv11
                    have HF11 : Hid _ := hf11
                    have t8 : decide ((8 : Int) < (n11 : Int)) = false := decide_eq_false (by omega)
                    clear p11 hf11 b11 HCh x2
                    have tn : ((n11 : Int) != 0) = false := by simp; omega
                    go_wp2
                    go_loopg [17] 0 (fun g2 sc wx => sc = .int .i64 0 ∧ Below w11.heap.size w11 wx)
                    case atStart => exact ⟨rfl, Below.refl _ _⟩
                    case round =>
                      obtain ⟨rfl, hbc⟩ := hrel
                      have hb12 := hb11.trans (hbc.mono hb11.size)
                      have r12 : RunS wr w4.heap.size R S' := ⟨vw, vc, HR11.out.below hbc⟩
                      have H12 : Hid _ := r12
                      clear hbc r12
                      go_wp2
                      go_roundg (G0 - 1)
                      case measure => have := hgk hlt; omega
                      case rel => exact ⟨k + 1, by have := HKG.out; have := hgk hlt; omega, by go_num, by rw [HS'.out, ← HL'.out], by rw [HS'.out, ← HOw'.out], by rw [HS'.out]; exact H12.out, hb12⟩
                · go_wp2
                  go_ret
                  exact ⟨rfl, B4.trans (hbel.mono B4.size)⟩
            · rw [Bool.eq_false_iff.2 i1]
              go_wp2
              go_ret
              exact ⟨rfl, b1⟩
          · have e4 : 1048576 < 8 * ((n0 : Int) + (n2 : Int) + (n3 : Int)) := by omega
            go_enter Try.func8, Try.ntmps8
            go_wp2_with fail
            refine (zzb35 a0 a2 a3 n0 n2 n3 c0 c2 c3 own _ hM0 hM2 hM3).mono ?_
            rintro e w1 ⟨rfl, rfl⟩
            rw [d0]
            go_wp2
            go_ret
            exact ⟨rfl, Below.refl _ _⟩
        · have e3 : decide ((65536 : Int) < (n3 : Int)) = true := decide_eq_true (by omega)
          go_enter Try.func8, Try.ntmps8
          go_wp2_with fail
          refine (zzb35 a0 a2 a3 n0 n2 n3 c0 c2 c3 own _ hM0 hM2 hM3).mono ?_
          rintro e w1 ⟨rfl, rfl⟩
          rw [d0]
          go_wp2
          go_ret
          exact ⟨rfl, Below.refl _ _⟩
      · have e2 : decide ((65536 : Int) < (n2 : Int)) = true := decide_eq_true (by omega)
        go_enter Try.func8, Try.ntmps8
        go_wp2_with fail
        refine (zzb35 a0 a2 a3 n0 n2 n3 c0 c2 c3 own _ hM0 hM2 hM3).mono ?_
        rintro e w1 ⟨rfl, rfl⟩
        rw [d0]
        go_wp2
        go_ret
        exact ⟨rfl, Below.refl _ _⟩
    · have e0 : decide ((65536 : Int) < (n0 : Int)) = true := decide_eq_true (by omega)
      go_enter Try.func8, Try.ntmps8
      go_wp2_with fail
      refine (zzb35 a0 a2 a3 n0 n2 n3 c0 c2 c3 own _ hM0 hM2 hM3).mono ?_
      rintro e w1 ⟨rfl, rfl⟩
      rw [d0]
      go_wp2
      go_ret
      exact ⟨rfl, Below.refl _ _⟩
  · have d0 : decide (n0 + n2 + n3 ≤ 1048576) = false := decide_eq_false hsum
    go_enter Try.func8, Try.ntmps8
    go_wp2_with fail
    refine (zzb35 a0 a2 a3 n0 n2 n3 c0 c2 c3 own _ hM0 hM2 hM3).mono ?_
    rintro e w1 ⟨rfl, rfl⟩
    rw [d0]
    go_wp2
    go_ret
    exact ⟨rfl, Below.refl _ _⟩

end Go.Proofs.Qxb6600021a
