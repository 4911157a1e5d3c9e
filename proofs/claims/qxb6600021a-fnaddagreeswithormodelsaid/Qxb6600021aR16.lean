/-
  FnAddAgreesWithOrModel (6): the walk.
-/
import Derived.Test.Qxb6600021aR15
import Derived.Deep.DeepCutAuto
namespace Go.Proofs.Qxb6600021a
open Go.RowKit
set_option linter.unusedVariables false

set_option maxHeartbeats 2000000 in
set_option maxRecDepth 100000 in
theorem law6w {v0 v2 v3 : Value} {ws is bs : List Int} (own : Bool) (w : World) (g0 : Ns .u64 w v0 ws) (g2 : Ns .i64 w v2 is) (g3 : Ns .u64 w v3 bs) (hwr : ∀ k, 0 ≤ wd ws k ∧ wd ws k < 18446744073709551616) (hbr : ∀ k, 0 ≤ wd bs k ∧ wd bs k < 18446744073709551616) :
    Calls Try.prog 6 #[v0, .bool own, v2, v3] w fun e w' => e = .returned (.bool true) ∧ Below w.heap.size w w' := by
  have HWR : Hid _ := hwr
  have HBR : Hid _ := hbr
  clear hwr hbr
  obtain ⟨a0, n0, c0, rfl, hN0, _, hM0, hf0⟩ := g0.form
  obtain ⟨a2, n2, c2, rfl, hN2, _, hM2, hf2⟩ := g2.form
  obtain ⟨a3, n3, c3, rfl, hN3, _, hM3, hf3⟩ := g3.form
  have H0 : Hid (n0 = ws.length) := hN0
  have H2 : Hid (n2 = is.length) := hN2
  have H3 : Hid (n3 = bs.length) := hN3
  clear hN0 hN2 hN3 hf0 hf2 hf3
  have bn0 : n0 ≤ 9223372036854775807 := by unfold maxLen at hM0; omega
  have bn2 : n2 ≤ 9223372036854775807 := by unfold maxLen at hM2; omega
  have bn3 : n3 ≤ 9223372036854775807 := by unfold maxLen at hM3; omega
  by_cases hsum : n0 + n2 + n3 ≤ 1048576
  · have d0 : decide (n0 + n2 + n3 ≤ 1048576) = true := decide_eq_true hsum
    by_cases h0 : n0 ≤ 65536
    · have e0 : decide ((65536 : Int) < (n0 : Int)) = false := decide_eq_false (by omega)
      by_cases h2 : n2 ≤ 65536
      · have e2 : decide ((65536 : Int) < (n2 : Int)) = false := decide_eq_false (by omega)
        by_cases h3 : n3 ≤ 65536
        · have e3 : decide ((65536 : Int) < (n3 : Int)) = false := decide_eq_false (by omega)
          by_cases h4 : 8 * (n0 + n2 + n3) ≤ 1048576
          · have e4 : decide ((1048576 : Int) < 8 * ((n0 : Int) + (n2 : Int) + (n3 : Int))) = false := decide_eq_false (by omega)
            go_enter Try.func6, Try.ntmps6
            go_wp2_with fail
            refine (zzb22 a0 a2 a3 n0 n2 n3 c0 c2 c3 own _ hM0 hM2 hM3).mono ?_
            rintro e w1 ⟨rfl, rfl⟩
            rw [d0]
            go_wp2_with fail
            refine (slen23 a2 a3 n2 n3 c2 c3 _ hM2 hM3).mono ?_
            rintro e w1 ⟨rfl, rfl⟩
            obtain ⟨m, hm⟩ : ∃ m, m = min n2 n3 := ⟨_, rfl⟩
            rw [← hm]
            have hm2 : m ≤ n2 := by omega
            have hm3 : m ≤ n3 := by omega
            clear hm
            go_wp2_with fail
            refine (inR24 m _ (by omega) g2).mono ?_
            rintro e w1 ⟨rfl, b1⟩
            by_cases i1 : inR is m = true
            · rw [i1]
              have hr : ∀ k, k < m → 0 ≤ wd is k ∧ wd is k ≤ 65536 := fun k hk => of_decide_eq_true i1 k hk (by rw [← H2.out]; omega)
              have HRg : Hid _ := hr
              clear hr i1
              go_wp2_with fail
              refine (sgB25 m _ (by omega) (g3.below b1) HBR.out).mono ?_
              rintro e w1' ⟨rfl, b1'⟩
              have b1 := b1.trans (b1'.mono b1.size)
              clear b1'
              by_cases i2 : sgB bs m = true
              · rw [i2]
                have hsg : ∀ k, k < m → sgl (wd bs k) := fun k hk => of_decide_eq_true i2 k hk (by rw [← H3.out]; omega)
                have HM : Hid _ := run_model (own := own) (ws := ws) (is := is) (bs := bs) (m := m) (by rw [← H0.out]; omega) HWR.out HBR.out HRg.out hsg
                clear hsg i2
                go_wp2_with fail
                refine (clone26 _ (by rw [← H0.out]; omega) (g0.below b1)).mono ?_
                rintro e w2 ⟨u0, rfl, p0, b2⟩
                have B2 := b1.trans (b2.mono b1.size)
                go_wp2_with fail
                refine (clone27 _ (by rw [← H2.out]; omega) (g2.below B2)).mono ?_
                rintro e w3 ⟨u2, rfl, p2, b3⟩
                have B3 := B2.trans (b3.mono B2.size)
                go_wp2_with fail
                refine (clone26 _ (by rw [← H3.out]; omega) (g3.below B3)).mono ?_
                rintro e w4 ⟨u3, rfl, p3, b4⟩
                have B4 := B3.trans (b4.mono B3.size)
                have q0 : Ns .u64 w4 u0 ws := ((Ns.ofOwn p0).below b3).below b4
                have q2 : Ns .i64 w4 u2 is := (Ns.ofOwn p2).below b4
                have q3 : Ns .u64 w4 u3 bs := Ns.ofOwn p3
                clear p0 p2 p3 b1 b2 b3 b4 B2 B3 g0 g2 g3
                have Q0 : Hid (Ns .u64 w4 u0 ws) := q0
                obtain ⟨a0', n0', c0', hv0, hn0', _, _, hf0⟩ := q0.form
                obtain ⟨a2', n2', c2', hv2, hn2', _, _, hf2⟩ := q2.form
                obtain ⟨a3', n3', c3', hv3, hn3', _, _, hf3⟩ := q3.form
                rw [← H0.out] at hn0'
                rw [← H2.out] at hn2'
                rw [← H3.out] at hn3'
                subst hn0' hn2' hn3'
                subst hv0 hv2 hv3
                have HF0 : Hid _ := hf0
                have HF2 : Hid _ := hf2
                have HF3 : Hid _ := hf3
                have hszb := szTo_bound n0' is (by omega) m HRg.out
                have hszb' : ∀ k, k ≤ m → szTo n0' is k ≤ 65537 := fun k hk => Nat.le_trans (szTo_mono n0' is m k hk) hszb
                have HSz : Hid _ := hszb'
                clear q0 q2 q3 hf0 hf2 hf3 hszb'
                go_wp2
                go_loopw [10, 11] (fun ss sk wr => ∃ k : Nat, k ≤ m ∧ sk = .int .i64 k ∧ ss = .int .i64 (szTo n0' is k : Int) ∧ wr = w4) (fun _ sk _ => m - (intOf sk).toNat)
                case atStart => exact ⟨0, by omega, rfl, rfl, rfl⟩
                case round =>
                  obtain ⟨k, hk, rfl, rfl, rfl⟩ := hrel
                  by_cases hlt : k < m
                  · obtain ⟨b2, o2, ha2, hb2, hc2⟩ := HF2.out (by omega)
                    subst ha2
                    have x2 := hc2 k (by omega)
                    have hr := HRg.out k hlt
                    obtain ⟨i, hi⟩ : ∃ i : Nat, wd is k = (i : Int) := ⟨(wd is k).toNat, by omega⟩
                    rw [hi] at x2
                    have hsz := HSz.out k hk
                    have hstep : szTo n0' is (k + 1) = max (szTo n0' is k) (i + 1) := by show max _ ((wd is k).toNat + 1) = _; rw [hi, Int.toNat_natCast]
                    have HSt : Hid _ := hstep
                    generalize szTo n0' is k = S at hsz HSt ⊢
                    have hin : i ≤ 65536 := by omega
                    clear hc2 hr hi hstep
                    by_cases hgt : (S : Int) < (i : Int) + 1
                    · go_wp2
                      go_roundw
                      case rel => exact ⟨k + 1, by omega, by go_num, by rw [HSt.out, show ((max S (i + 1) : Nat) : Int) = (i : Int) + 1 from by omega], by trivial⟩
                      case measure => simp [intOf]; omega
                    · go_wp2
                      go_roundw
                      case rel => exact ⟨k + 1, by omega, by go_num, by rw [HSt.out, show ((max S (i + 1) : Nat) : Int) = (S : Int) from by omega], by trivial⟩
                      case measure => simp [intOf]; omega
                  · have hkm : k = m := by omega
                    subst hkm
                    clear hlt hk
                    obtain ⟨W4, hW4⟩ : ∃ W, W = wr := ⟨_, rfl⟩
                    subst hW4
                    have hszm : n0' ≤ szTo n0' is k := szTo_mono n0' is k 0 (by omega)
                    obtain ⟨N, hN⟩ : ∃ N, N = szTo n0' is k := ⟨_, rfl⟩
                    have HNN : Hid (N = szTo n0' is k) := hN
                    rw [← hN] at hszm hszb
                    rw [← hN]
                    clear hN
                    have hII : ∀ j, j < k → (wd is j).toNat < N := fun j hj => by rw [HNN.out]; exact szTo_idx n0' is hj
                    have HII : Hid _ := hII
                    obtain ⟨i0, hi0, hz0, hz1, hz2⟩ := info_parts info29
                    clear hII
                    go_wp2_with (at_make; refine wpList_make_full _ rfl _ _ 38 rfl W4.heap.size 29 i0 (.int .u64 0) 1 Try.underlying38 hi0 hz0 hz1 _ _ _ _ N rfl rfl rfl rfl ?m2 ?m3 (Nat.le_refl _) ?_)
                    case m2 => rw [hz2]; omega
                    case m3 => unfold maxLen; omega
                    intro w5 hown5 hgrow5
                    rw [made_zeros'] at hown5
                    have B5 : Below W4.heap.size W4 w5 := (Below.refl _ _).grown hgrow5 (Nat.le_refl _) (fun j hj => by cases hj)
                    have HO5 : Hid (w5.ownsRow W4.heap.size 29 1 (.slice (some ⟨W4.heap.size, 0, none⟩) N N) N (u64s (zeros N))) := hown5
                    clear hown5 hgrow5 hi0 hz0 hz1 hz2
                    go_wp2
                    go_loopw [13] (fun s wr => ∃ j : Nat, j ≤ n0' ∧ s = .int .i64 j ∧ wr.ownsRow W4.heap.size 29 1 (.slice (some ⟨W4.heap.size, 0, none⟩) N N) N (u64s (pad (ws.take j) N)) ∧ Below W4.heap.size W4 wr) (fun s _ => n0' - (intOf s).toNat)
                    case atStart => exact ⟨0, by omega, rfl, by rw [List.take_zero, pad_nil]; exact HO5.out, B5⟩
                    case round =>
                      clear B5
                      obtain ⟨j, hj, rfl, hown, hbel⟩ := hrel
                      have HOwn : Hid (wr.ownsRow W4.heap.size 29 1 (.slice (some ⟨W4.heap.size, 0, none⟩) N N) N (u64s (pad (ws.take j) N))) := hown
                      by_cases hlt : j < n0'
                      · obtain ⟨b6, o6, h6, hb6, hc6⟩ := HF0.out (by omega)
                        subst h6
                        have x6 := (hbel.cell (p := ⟨b6, o6 + j, none⟩) (by exact hb6)).trans (hc6 j hlt)
                        obtain ⟨v9, o9⟩ := one_cell hown j (by omega)
                        have f9 := hown.frozenAt j
                        clear hc6 hown
                        go_wp2
                        go_roundw
                        case rel =>
                          refine ⟨j + 1, by omega, by go_num, ?_, below_run hbel (Nat.le_refl _)⟩
                          rw [← pad_step ws N j (by rw [← H0.out]; exact hlt) (by rw [← H0.out]; exact hszm), u64s_set]
                          exact (HOwn.out.stored j _).1
                        case measure => simp [intOf]; omega
                      · have htk : ws.take j = ws := List.take_of_length_le (by rw [← H0.out]; omega)
                        obtain ⟨w6, hw6⟩ : ∃ W, W = wr := ⟨_, rfl⟩
                        subst hw6
                        have HO6 : Hid (w6.ownsRow W4.heap.size 29 1 (.slice (some ⟨W4.heap.size, 0, none⟩) N N) N (u64s (pad ws N))) := by rw [htk] at hown; exact hown
                        clear hown HOwn htk
                        go_wp2_with fail
                        refine (clone26 _ (by rw [← H0.out]; omega) (Q0.out.below hbel)).mono ?_
                        rintro e w7 ⟨u7, rfl, p7, b7⟩
                        go_wp2_with fail
                        refine (new28 (base := w6.heap.size) (ws := ws) own _ b7.size p7).mono ?_
                        rintro e w8 ⟨R, rfl, r8, b8⟩
                        have B8 : Below w6.heap.size w6 w8 := b7.trans (b8.mono b7.size)
                        have hG : W4.heap.size < w6.heap.size := (HO6.out.lt _ rfl).2
                        have HR8 : Hid (RunS w8 w6.heap.size R ⟨ws, own, []⟩) := ⟨_, _, r8⟩
                        have HO8 : Hid (w8.ownsRow W4.heap.size 29 1 (.slice (some ⟨W4.heap.size, 0, none⟩) N N) N (u64s (pad ws N))) := own_below HO6.out B8
                        have B48 : Below W4.heap.size W4 w8 := hbel.trans (B8.mono hbel.size)
                        have hRb : w6.heap.size ≤ R := r8.le
                        clear p7 b7 b8 r8 B8 hbel
                        go_wp2
                        go_loopg [15] k (fun g2 s wr => ∃ j : Nat, j + g2 = k ∧ s = .int .i64 j ∧ RunS wr w6.heap.size R (steps ⟨ws, own, []⟩ is bs j) ∧ wr.ownsRow W4.heap.size 29 1 (.slice (some ⟨W4.heap.size, 0, none⟩) N N) N (u64s (mdl (pad ws N) is bs j)) ∧ Below W4.heap.size W4 wr)
                        case atStart => exact ⟨0, by omega, rfl, HR8.out, HO8.out, B48⟩
                        case round =>
                          clear B48
                          obtain ⟨j3, hj3, rfl, hrun, hmo, hbel⟩ := hrel
                          have HJ3 : Hid _ := hj3
                          have hj4 : j3 ≤ k := by omega
                          have hj5 : j3 < k → 0 < gk := by omega
                          clear hj3
                          have HRun : Hid (RunS wr w6.heap.size R (steps ⟨ws, own, []⟩ is bs j3)) := hrun
                          have HMo : Hid (wr.ownsRow W4.heap.size 29 1 (.slice (some ⟨W4.heap.size, 0, none⟩) N N) N (u64s (mdl (pad ws N) is bs j3))) := hmo
                          clear hrun hmo
                          by_cases hlt3 : j3 < k
                          · obtain ⟨b2, o2, ha2, hb2, hc2⟩ := HF2.out (by omega)
                            obtain ⟨b3, o3, ha3, hb3, hc3⟩ := HF3.out (by omega)
                            subst ha2 ha3
                            have x2 := (hbel.cell (p := ⟨b2, o2 + j3, none⟩) (by exact hb2)).trans (hc2 j3 (by omega))
                            have x3 := (hbel.cell (p := ⟨b3, o3 + j3, none⟩) (by exact hb3)).trans (hc3 j3 (by omega))
                            have hr := HRg.out j3 hlt3
                            have hii := HII.out j3 hlt3
                            obtain ⟨i, hi⟩ : ∃ i : Nat, wd is j3 = (i : Int) := ⟨(wd is j3).toNat, by omega⟩
                            rw [hi] at x2
                            rw [hi, Int.toNat_natCast] at hii
                            have hin : i ≤ 65536 := by omega
                            have hst : steps ⟨ws, own, []⟩ is bs (j3 + 1) = addSt (steps ⟨ws, own, []⟩ is bs j3) i (wd bs j3) := by show addSt _ (wd is j3).toNat _ = _; rw [hi, Int.toNat_natCast]
                            have hmd : mdl (pad ws N) is bs (j3 + 1) = setW (mdl (pad ws N) is bs j3) i (wd bs j3) := by show setW _ (wd is j3).toNat _ = _; rw [hi, Int.toNat_natCast]
                            have hadd := fun (W : World) (hR : RunS W w6.heap.size R (steps ⟨ws, own, []⟩ is bs j3)) => zadd29 i (wd bs j3) W hR (HM.out j3 hj4).1 hin
                            rw [← hst] at hadd
                            have hml : (mdl (pad ws N) is bs j3).length = N := by rw [mdl_length, pad_length, ← H0.out]; omega
                            have HAdd : Hid _ := hadd
                            have HMd : Hid _ := hmd
                            have HMl : Hid _ := hml
                            clear hc2 hc3 hr hi hst hadd hmd hml
                            go_upto_region 30 with fail
                            go_cut [] (fun wx => RunS wx w6.heap.size R (steps ⟨ws, own, []⟩ is bs (j3 + 1)) ∧ Below w6.heap.size wr wx)
                            case first =>
                              go_region_with (go_at_call 29; refine Calls.mono (HAdd.out _ ?_) ?_; exact RunS.drew HRun.out; rintro e w8 ⟨rfl, r8, b8⟩)
                              all_goals (go_wp2_with fail; go_meet; exact ⟨r8, (Below.refl _ _).drew.trans b8⟩)
                            case rest =>
                            obtain ⟨r9, b9⟩ := hcut
                            have x2 := (b9.cell (p := ⟨b2, o2 + j3, none⟩) (by exact Nat.lt_trans hb2 hG)).trans x2
                            have x3 := (b9.cell (p := ⟨b3, o3 + j3, none⟩) (by exact Nat.lt_trans hb3 hG)).trans x3
                            have hmo9 : wc.ownsRow W4.heap.size 29 1 (.slice (some ⟨W4.heap.size, 0, none⟩) N N) N (u64s (mdl (pad ws N) is bs j3)) := own_of_blocks HMo.out fun g hg => b9.block g (by simp [Value.ownBlock] at hg; omega)
                            have hb9 : Below W4.heap.size W4 wc := hbel.trans (b9.mono (Nat.le_of_lt hG))
                            have HR9 : Hid (RunS wc w6.heap.size R (steps ⟨ws, own, []⟩ is bs (j3 + 1))) := r9
                            have HMo9 : Hid _ := hmo9
                            have y1 : wc.cell? ⟨W4.heap.size, i, none⟩ = some (.int .u64 (wd (mdl (pad ws N) is bs j3) i)) := by rw [hmo9.cellAt i (by omega)]; exact u64s_at _ _ (by rw [HMl.out]; exact hii)
                            have z1 := hmo9.frozenAt i
                            clear r9 b9 hmo9 HAdd HRun HMo
                            go_wp2
                            go_region
                            all_goals
                              go_wp2
                              go_roundg (gk - 1)
                              case measure => have := hj5 hlt3; omega
                              case rel =>
                                refine ⟨j3 + 1, by have := HJ3.out; have := hj5 hlt3; omega, by go_num, ?_, ?_, ?_⟩
                                · first
                                    | exact RunS.drew (RunS.beside HR9.out hG)
                                    | exact RunS.beside (RunS.drew HR9.out) hG
                                · rw [HMd.out]
                                  first
                                    | exact setW_u64 HMo9.out
                                    | exact setW_u64 (own_drew HMo9.out)
                                · first
                                    | exact (below_run hb9 (Nat.le_refl _)).drew
                                    | exact below_run hb9.drew (Nat.le_refl _)
                          · obtain rfl : k = j3 := by omega
                            have HInv : Hid (Inv (steps ⟨ws, own, []⟩ is bs k)) := (HM.out k (Nat.le_refl _)).1
                            have hlen : runLen (steps ⟨ws, own, []⟩ is bs k).ws (steps ⟨ws, own, []⟩ is bs k).ch = (N : Int) := by
                              have := (HM.out k (Nat.le_refl _)).2.2.1
                              rw [← H0.out, ← HNN.out] at this
                              exact this
                            have hvw : ∀ j, viewW (steps ⟨ws, own, []⟩ is bs k).ws (steps ⟨ws, own, []⟩ is bs k).ch j = wd (mdl (pad ws N) is bs k) j := by
                              intro j
                              have := (HM.out k (Nat.le_refl _)).2.2.2 j
                              rw [← H0.out, ← HNN.out] at this
                              exact this
                            have hml : (mdl (pad ws N) is bs k).length = N := by rw [mdl_length, pad_length, ← H0.out]; omega
                            have hrun := HRun.out
                            have hmo := HMo.out
                            have hinv := HInv.out
                            clear HRun HMo HInv
                            generalize steps ⟨ws, own, []⟩ is bs k = S at hrun hinv hlen hvw
                            generalize mdl (pad ws N) is bs k = M at hmo hvw hml
                            obtain ⟨vw, vc, r9⟩ := hrun
                            have HR : Hid (Run wr w6.heap.size R S.ws S.own S.ch vw vc) := r9
                            have HMo : Hid (wr.ownsRow W4.heap.size 29 1 (.slice (some ⟨W4.heap.size, 0, none⟩) N N) N (u64s M)) := hmo
                            have HInv : Hid (Inv S) := hinv
                            have HV : Hid _ := hvw
                            have HL : Hid _ := hlen
                            have HMl : Hid _ := hml
                            clear r9 hmo hinv hvw hlen hml hj4 hj5 hlt3 HJ3
                            go_wp2_with fail
                            refine (zlen30 _ HR.out (by have := HInv.out.wsl; omega) HInv.out.few HInv.out.rng).mono ?_
                            rintro e w10 ⟨rfl, b10⟩
                            rw [HL.out]
                            have t0 : ((N : Int) != (N : Int)) = false := by simp
                            have hb10 := hbel.trans (b10.mono hbel.size)
                            have HR10 : Hid (Run w10 w6.heap.size R S.ws S.own S.ch vw vc) := HR.out.below b10
                            have HMo10 : Hid (w10.ownsRow W4.heap.size 29 1 (.slice (some ⟨W4.heap.size, 0, none⟩) N N) N (u64s M)) := own_below HMo.out b10
                            clear HR HMo b10 hbel
                            go_wp2_with fail
                            refine (words31 _ HR10.out (by have := HInv.out.wsl; omega)).mono ?_
                            rintro e w11 ⟨v11, rfl, p11, b11⟩
                            go_wp2_with fail
                            refine (changed32 _ (HR10.out.below b11) HInv.out.few).mono ?_
                            rintro e w12 ⟨v12, rfl, p12, b12⟩
                            have hb12 : Below W4.heap.size W4 w12 := (hb10.trans (b11.mono hb10.size)).trans (b12.mono (Nat.le_trans hb10.size b11.size))
                            have HMo12 : Hid (w12.ownsRow W4.heap.size 29 1 (.slice (some ⟨W4.heap.size, 0, none⟩) N N) N (u64s M)) := own_below (own_below HMo10.out b11) b12
                            have P11 : Hid (Ns .u64 w12 v11 S.ws) := p11.below b12
                            have P12 : Hid (Prs w12 v12 S.ch) := p12
                            clear p11 p12 b11 b12 HR10 HMo10 hb10
                            go_wp2
                            go_loopg [18] N (fun g3 s wx => ∃ j : Nat, j + g3 = N ∧ s = .int .i64 j ∧ Below w12.heap.size w12 wx)
                            case atStart => exact ⟨0, by omega, rfl, Below.refl _ _⟩
                            case round =>
                              obtain ⟨j, hjg, rfl, hbj⟩ := hrel
                              have HJ : Hid _ := hjg
                              have hj1 : j ≤ N := by omega
                              have hj2 : j < N → 0 < gk := by omega
                              clear hjg
                              by_cases hltj : j < N
                              · have y1 : wr.cell? ⟨W4.heap.size, j, none⟩ = some (.int .u64 (wd M j)) := by rw [(own_below HMo12.out hbj).cellAt j (by omega)]; exact u64s_at _ _ (by rw [HMl.out]; exact hltj)
                                have hvv : ∀ nq, Calls Try.prog 33 #[v11, v12, .int .i64 (j : Int)] (wr.drewN nq) fun e w' => e = .returned (.int .u64 (wd M j)) ∧ w' = wr.drewN nq := fun nq => by
                                  have := view33q j wr nq (by omega) (P11.out.below hbj) (P12.out.below hbj) HInv.out.few
                                  rw [HV.out] at this
                                  exact this
                                have HVV : Hid _ := hvv
                                have t1 : (wd M j != wd M j) = false := by simp
                                clear hvv
                                go_wp2
                                go_quiet ((go_at_call 33; exact Calls.quiet_of_same (HVV.out _)))
                                go_wp2
                                go_roundg (gk - 1)
                                case measure => have := hj2 hltj; omega
                                case rel => exact ⟨j + 1, by have := HJ.out; have := hj2 hltj; omega, by go_num, below_drewN hbj _⟩
                              · go_wp2
                                go_ret
                                exact ⟨rfl, B4.trans ((hb12.trans (hbj.mono hb12.size)).mono B4.size)⟩
              · rw [Bool.eq_false_iff.2 i2]
                go_wp2
                go_ret
                exact ⟨rfl, b1⟩
            · rw [Bool.eq_false_iff.2 i1]
              go_wp2
              go_ret
              exact ⟨rfl, b1⟩
          · have e4 : 1048576 < 8 * ((n0 : Int) + (n2 : Int) + (n3 : Int)) := by omega
            go_enter Try.func6, Try.ntmps6
            go_wp2_with fail
            refine (zzb22 a0 a2 a3 n0 n2 n3 c0 c2 c3 own _ hM0 hM2 hM3).mono ?_
            rintro e w1 ⟨rfl, rfl⟩
            rw [d0]
            go_wp2
            go_ret
            exact ⟨rfl, Below.refl _ _⟩
        · have e3 : decide ((65536 : Int) < (n3 : Int)) = true := decide_eq_true (by omega)
          go_enter Try.func6, Try.ntmps6
          go_wp2_with fail
          refine (zzb22 a0 a2 a3 n0 n2 n3 c0 c2 c3 own _ hM0 hM2 hM3).mono ?_
          rintro e w1 ⟨rfl, rfl⟩
          rw [d0]
          go_wp2
          go_ret
          exact ⟨rfl, Below.refl _ _⟩
      · have e2 : decide ((65536 : Int) < (n2 : Int)) = true := decide_eq_true (by omega)
        go_enter Try.func6, Try.ntmps6
        go_wp2_with fail
        refine (zzb22 a0 a2 a3 n0 n2 n3 c0 c2 c3 own _ hM0 hM2 hM3).mono ?_
        rintro e w1 ⟨rfl, rfl⟩
        rw [d0]
        go_wp2
        go_ret
        exact ⟨rfl, Below.refl _ _⟩
    · have e0 : decide ((65536 : Int) < (n0 : Int)) = true := decide_eq_true (by omega)
      go_enter Try.func6, Try.ntmps6
      go_wp2_with fail
      refine (zzb22 a0 a2 a3 n0 n2 n3 c0 c2 c3 own _ hM0 hM2 hM3).mono ?_
      rintro e w1 ⟨rfl, rfl⟩
      rw [d0]
      go_wp2
      go_ret
      exact ⟨rfl, Below.refl _ _⟩
  · have d0 : decide (n0 + n2 + n3 ≤ 1048576) = false := decide_eq_false hsum
    go_enter Try.func6, Try.ntmps6
    go_wp2_with fail
    refine (zzb22 a0 a2 a3 n0 n2 n3 c0 c2 c3 own _ hM0 hM2 hM3).mono ?_
    rintro e w1 ⟨rfl, rfl⟩
    rw [d0]
    go_wp2
    go_ret
    exact ⟨rfl, Below.refl _ _⟩

theorem wd_wf {ns : List Int} (h : ∀ z ∈ ns, (Lit.int .u64 z).wf = true) (k : Nat) : 0 ≤ wd ns k ∧ wd ns k < 18446744073709551616 := by
  unfold wd
  by_cases hk : k < ns.length
  · have e : ns.getD k 0 = ns[k] := by simp [List.getD, hk]
    rw [e]
    have := h ns[k] (List.getElem_mem hk)
    have e2 : (0 : Int) ≤ ns[k] ∧ ns[k] ≤ 18446744073709551615 := by simpa [Lit.wf, IntKind.min, IntKind.max, IntKind.signed, IntKind.bits] using this
    omega
  · have e : ns.getD k 0 = 0 := by simp [List.getD, show ns.length ≤ k by omega]
    rw [e]; omega
theorem law6 {v0 v2 v3 : Value} {ws is bs : List Int} (own : Bool) (w : World) (g0 : Ns .u64 w v0 ws) (g2 : Ns .i64 w v2 is) (g3 : Ns .u64 w v3 bs) (h0 : ∀ z ∈ ws, (Lit.int .u64 z).wf = true) (h3 : ∀ z ∈ bs, (Lit.int .u64 z).wf = true) :
    Calls Try.prog 6 #[v0, .bool own, v2, v3] w fun e w' => e = .returned (.bool true) ∧ Below w.heap.size w w' := law6w own w g0 g2 g3 (wd_wf h0) (wd_wf h3)

end Go.Proofs.Qxb6600021a
