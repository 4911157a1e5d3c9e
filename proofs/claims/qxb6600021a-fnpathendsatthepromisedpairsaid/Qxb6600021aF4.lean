/-
  promisedEnd (44), zzBytes (37).
-/
import Derived.Test.Qxb6600021aF3
namespace Go.Proofs.Qxb6600021a
open Go.RowKit
set_option linter.unusedVariables false

def has (L : List Edge) (c : Cel) : Bool := (back L c).isSome

theorem backTo_isSome (L : List Edge) (c : Cel) : ∀ k, (backTo L k c).isSome = true ↔ ∃ i, i < k ∧ ke L i = c := by
  intro k
  induction k with
  | zero => simp [backTo]
  | succ k ih =>
    rw [backTo]
    by_cases e : ke L k = c
    · rw [if_pos e]; simp only [Option.isSome_some, true_iff]; exact ⟨k, by omega, e⟩
    · rw [if_neg e, ih]
      constructor
      · rintro ⟨i, hi, he⟩; exact ⟨i, by omega, he⟩
      · rintro ⟨i, hi, he⟩
        have : i ≠ k := fun h => e (h ▸ he)
        exact ⟨i, by omega, he⟩

theorem has_iff (L : List Edge) (c : Cel) : has L c = true ↔ ∃ i, i < L.length ∧ ke L i = c := backTo_isSome L c _

/-- The answer of a scan of the pairs 0 .. k - 1. -/
def seek (L : List Edge) (f : Int) : Nat → Option Cel
  | 0 => none
  | k + 1 => match seek L f k with
    | some c => some c
    | none => if has L ⟨f, k, false⟩ then some ⟨f, k, false⟩ else if has L ⟨f, k, true⟩ then some ⟨f, k, true⟩ else none

def pEnd (L : List Edge) (f t1 tt : Int) (pre : Bool) : Option Cel :=
  if has L ⟨f, t1, false⟩ then some ⟨f, t1, false⟩ else if has L ⟨f, t1, true⟩ then some ⟨f, t1, true⟩ else if pre then seek L f tt.toNat else none

theorem seek_none {L : List Edge} {f : Int} : ∀ {n : Nat}, (∀ j : Nat, j < n → has L ⟨f, j, false⟩ = false ∧ has L ⟨f, j, true⟩ = false) → seek L f n = none := by
  intro n
  induction n with
  | zero => intro _; rfl
  | succ n ih =>
    intro h
    have hn := h n (by omega)
    rw [seek, ih (fun j hj => h j (by omega))]
    simp [hn.1, hn.2]

theorem seek_first {L : List Edge} {f : Int} {n b : Nat} (hb : b < n) (h : ∀ j : Nat, j < b → has L ⟨f, j, false⟩ = false ∧ has L ⟨f, j, true⟩ = false) (hh : has L ⟨f, b, false⟩ = true ∨ has L ⟨f, b, true⟩ = true) :
    seek L f n = some (if has L ⟨f, b, false⟩ = true then ⟨f, b, false⟩ else ⟨f, b, true⟩) := by
  induction n with
  | zero => omega
  | succ n ih =>
    by_cases e : b < n
    · rw [seek, ih e]
    · have : b = n := by omega
      subst this
      rw [seek, seek_none h]
      by_cases e1 : has L ⟨f, b, false⟩ = true
      · simp [e1]
      · rcases hh with hh | hh
        · exact absurd hh e1
        · simp [e1, hh]

/-- Edge i may be one where the path ends, with prefix. -/
def Fits (L : List Edge) (f tt : Int) (i : Nat) : Prop := (ke L i).f = f ∧ 0 ≤ (ke L i).t ∧ (ke L i).t < tt

theorem seek_not_found {L : List Edge} {f tt : Int} (h : ∀ i, i < L.length → ¬ Fits L f tt i) : seek L f tt.toNat = none := by
  refine seek_none fun j hj => ⟨?_, ?_⟩
  · rw [Bool.eq_false_iff]; intro e
    obtain ⟨i, hi, he⟩ := (has_iff L _).1 e
    exact h i hi ⟨by rw [he], by rw [he]; simp, by rw [he]; show (j : Int) < tt; omega⟩
  · rw [Bool.eq_false_iff]; intro e
    obtain ⟨i, hi, he⟩ := (has_iff L _).1 e
    exact h i hi ⟨by rw [he], by rw [he]; simp, by rw [he]; show (j : Int) < tt; omega⟩

theorem seek_found {L : List Edge} {f tt best : Int} {i : Nat} (hi : i < L.length) (hf : Fits L f tt i) (hbst : (ke L i).t = best) (hmin : ∀ i, i < L.length → Fits L f tt i → best ≤ (ke L i).t) :
    seek L f tt.toNat = some (if has L ⟨f, best, false⟩ = true then ⟨f, best, false⟩ else ⟨f, best, true⟩) := by
  obtain ⟨h1, h2, h3⟩ := hf
  rw [hbst] at h2 h3
  obtain ⟨b, rfl⟩ : ∃ b : Nat, best = b := ⟨best.toNat, by omega⟩
  refine seek_first (by omega) (fun j hj => ⟨?_, ?_⟩) ?_
  · rw [Bool.eq_false_iff]; intro e
    obtain ⟨i', hi', he⟩ := (has_iff L _).1 e
    have := hmin i' hi' ⟨by rw [he], by rw [he]; simp, by rw [he]; show (j : Int) < tt; omega⟩
    rw [he] at this
    have : (b : Int) ≤ (j : Int) := this
    omega
  · rw [Bool.eq_false_iff]; intro e
    obtain ⟨i', hi', he⟩ := (has_iff L _).1 e
    have := hmin i' hi' ⟨by rw [he], by rw [he]; simp, by rw [he]; show (j : Int) < tt; omega⟩
    rw [he] at this
    have : (b : Int) ≤ (j : Int) := this
    omega
  · cases hm : (ke L i).m
    · left; exact (has_iff L _).2 ⟨i, hi, by rw [← h1, ← hbst, ← hm]⟩
    · right; exact (has_iff L _).2 ⟨i, hi, by rw [← h1, ← hbst, ← hm]⟩

theorem reached49' {v : Value} {L : List Edge} (c : Cel) (w : World) (h : Egs w v L) (hs : L.length ≤ 4096) :
    Calls Try.prog 49 #[v, .agg #[.int .i64 c.f, .int .i64 c.t, .bool c.m]] w fun e w' => e = .returned (.bool (has L c)) ∧ Below w.heap.size w w' := reached49 c w h hs


/-- Where promisedEnd's loop stands after k edges. -/
def At (L : List Edge) (F tt : Int) (k : Nat) (best : Int) (found : Bool) : Prop :=
  (found = false → best = 0 ∧ ∀ i, i < k → ¬ Fits L F tt i) ∧ (found = true → (∃ i, i < k ∧ Fits L F tt i ∧ (ke L i).t = best) ∧ ∀ i, i < k → Fits L F tt i → best ≤ (ke L i).t)

theorem At.zero (L : List Edge) (F tt : Int) : At L F tt 0 0 false := ⟨fun _ => ⟨rfl, fun i h => by omega⟩, fun h => by cases h⟩
theorem At.keep {L : List Edge} {F tt : Int} {k : Nat} {best : Int} {found : Bool} (h : At L F tt k best found) (hk : ¬ Fits L F tt k ∨ (found = true ∧ best ≤ (ke L k).t)) : At L F tt (k + 1) best found := by
  refine ⟨fun e => ⟨(h.1 e).1, fun i hi => ?_⟩, fun e => ⟨?_, fun i hi hf => ?_⟩⟩
  · by_cases hik : i = k
    · subst hik
      rcases hk with hk | hk
      · exact hk
      · rw [e] at hk; cases hk.1
    · exact (h.1 e).2 i (by omega)
  · obtain ⟨i, hi, r⟩ := (h.2 e).1; exact ⟨i, by omega, r⟩
  · by_cases hik : i = k
    · subst hik
      rcases hk with hk | hk
      · exact absurd hf hk
      · exact hk.2
    · exact (h.2 e).2 i (by omega) hf
theorem At.take {L : List Edge} {F tt : Int} {k : Nat} {best : Int} {found : Bool} (h : At L F tt k best found) (hf : Fits L F tt k) (hb : found = true → (ke L k).t < best) : At L F tt (k + 1) (ke L k).t true := by
  refine ⟨(fun e => by cases e), fun _ => ⟨⟨k, by omega, hf, rfl⟩, fun i hi hfi => ?_⟩⟩
  by_cases hik : i = k
  · subst hik; exact Int.le_refl _
  · cases found
    · exact absurd hfi ((h.1 rfl).2 i (by omega))
    · have := (h.2 rfl).2 i (by omega) hfi
      have := hb rfl
      omega

theorem At.none {L : List Edge} {F tt best : Int} (h : At L F tt L.length best false) : seek L F tt.toNat = none := seek_not_found (h.1 rfl).2
theorem At.some {L : List Edge} {F tt best : Int} (h : At L F tt L.length best true) : seek L F tt.toNat = some (if has L ⟨F, best, false⟩ = true then ⟨F, best, false⟩ else ⟨F, best, true⟩) := by
  obtain ⟨⟨i, hi, hf, he⟩, hm⟩ := h.2 rfl
  exact seek_found hi hf he hm

set_option maxHeartbeats 2000000 in
set_option maxRecDepth 100000 in
theorem end44 {v : Value} {L : List Edge} (fr tt F T1 : Int) (pre : Bool) (w : World) (h : Egs w v L) (hs : L.length ≤ 4096) (hF : wrap64 (fr - 1) = F) (hT : wrap64 (tt - 1) = T1) (htt : -9223372036854775808 ≤ tt ∧ tt ≤ 65536) :
    Calls Try.prog 44 #[v, .int .i64 fr, .int .i64 tt, .bool pre] w fun e w' =>
      e = .returned (.tuple #[cv ((pEnd L F T1 tt pre).getD c0), .bool (pEnd L F T1 tt pre).isSome]) ∧ Below w.heap.size w w' := by
  have HE : Hid (Egs w v L) := h
  obtain ⟨a, n, cap, rfl, hn, _, hM, hf⟩ := Egs.form h
  have HF : Hid _ := hf
  have HN : Hid (n = L.length) := hn
  have hs' : n ≤ 4096 := by omega
  clear h hf hn
  go_enter Try.func44, Try.ntmps44
  go_wp2_with fail
  have hB : Below w.heap.size w ((w.alloc (.cells #[.int .i64 0, .int .i64 0, .bool false] 69)).alloc (.cells #[.int .i64 F, .int .i64 T1, .bool false] 69)) := below_two_allocs _ _
  have hk0 : ((w.alloc (.cells #[.int .i64 0, .int .i64 0, .bool false] 69)).alloc (.cells #[.int .i64 F, .int .i64 T1, .bool false] 69)).heap[w.heap.size]? = some (.cells #[.int .i64 0, .int .i64 0, .bool false] 69 (0, 0)) := by
    rw [heap_alloc_old _ _ (by simp)]; exact heap_alloc_new _ _
  have hk1 : ((w.alloc (.cells #[.int .i64 0, .int .i64 0, .bool false] 69)).alloc (.cells #[.int .i64 F, .int .i64 T1, .bool false] 69)).heap[w.heap.size + 1]? = some (.cells #[.int .i64 F, .int .i64 T1, .bool false] 69 (0, 0)) := heap_alloc2_new _ _ _
  have hl1 : w.heap.size + 1 < ((w.alloc (.cells #[.int .i64 0, .int .i64 0, .bool false] 69)).alloc (.cells #[.int .i64 F, .int .i64 T1, .bool false] 69)).heap.size := by simp
  refine (reached49' ⟨F, T1, false⟩ _ (HE.out.below hB) hs).mono ?_
  rintro e w1 ⟨rfl, b1⟩
  have HK0 : Hid _ := (b1.block _ (by omega)).trans hk0
  have HK1 : Hid _ := (b1.block _ hl1).trans hk1
  have hl : w.heap.size + 1 < w1.heap.size := Nat.lt_of_lt_of_le hl1 b1.size
  have hb1 := hB.trans (b1.mono hB.size)
  clear b1 hB hk0 hk1 hl1
  by_cases hA : has L ⟨F, T1, false⟩ = true
  · rw [hA]
    have HP : Hid (pEnd L F T1 tt pre = some ⟨F, T1, false⟩) := by unfold Hid pEnd; rw [if_pos hA]
    obtain ⟨ht, p0, p1, p2, r0, r1, r2⟩ := blk3 HK0.out
    have HT : Hid _ := ht
    obtain ⟨_, g0, g1, g2, _, _, _⟩ := blk3 HK1.out
    clear ht hA
    go_wp2
    try simp only [Exit.inBlock, Exit.then]
    refine bodyPost_ret (v := .tuple #[cv ⟨F, T1, false⟩, .bool true]) ?_ rfl ⟨?_, ?_⟩
    · exact results_cell_mid (p := 8) (u := 9) (ty := 69) rfl _ _ w.heap.size 0 (cl ⟨F, T1, false⟩) _ rfl (World.rangeAt_setCells_same w1 w.heap.size 0 (cl ⟨F, T1, false⟩) HT.out) Try.underlying69 rfl size69
    · rw [HP.out]; rfl
    · exact below_wsets (Nat.le_refl _) (cl ⟨F, T1, false⟩) 0 hb1
  · rw [Bool.eq_false_iff.2 hA]
    have HA : Hid (¬ has L ⟨F, T1, false⟩ = true) := hA
    obtain ⟨_, g0, g1, g2, q0, q1, q2⟩ := blk3 HK1.out
    clear hA
    go_wp2_with fail
    have hB : Below w.heap.size w (w1.setCell ⟨w.heap.size + 1, 2, none⟩ (.bool true)) := hb1.setCell (p := ⟨w.heap.size + 1, 2, none⟩) (by show w.heap.size ≤ w.heap.size + 1; omega) _
    have hk0 : (w1.setCell ⟨w.heap.size + 1, 2, none⟩ (.bool true)).heap[w.heap.size]? = some (.cells #[.int .i64 0, .int .i64 0, .bool false] 69 (0, 0)) := (heap_setCell_other _ ⟨w.heap.size + 1, 2, none⟩ _ _ (by show w.heap.size ≠ w.heap.size + 1; omega)).trans HK0.out
    have hk1 : (w1.setCell ⟨w.heap.size + 1, 2, none⟩ (.bool true)).heap[w.heap.size + 1]? = some (.cells #[.int .i64 F, .int .i64 T1, .bool true] 69 (0, 0)) := heap_setCell_same _ _ _ _ _ _ HK1.out
    have hl1 : w.heap.size + 1 < (w1.setCell ⟨w.heap.size + 1, 2, none⟩ (.bool true)).heap.size := by simpa using hl
    refine (reached49' ⟨F, T1, true⟩ _ (HE.out.below hB) hs).mono ?_
    rintro e w2 ⟨rfl, b2⟩
    have HK0 : Hid (w2.heap[w.heap.size]? = some (.cells #[.int .i64 0, .int .i64 0, .bool false] 69 (0, 0))) := (b2.block _ (by omega)).trans hk0
    have HK1 : Hid (w2.heap[w.heap.size + 1]? = some (.cells #[.int .i64 F, .int .i64 T1, .bool true] 69 (0, 0))) := (b2.block _ hl1).trans hk1
    have hl : w.heap.size + 1 < w2.heap.size := Nat.lt_of_lt_of_le hl1 b2.size
    have hb2 := hB.trans (b2.mono hB.size)
    clear b2 hB hk0 hk1 hl1 g0 g1 g2 q0 q1 q2 hb1
    by_cases hA2 : has L ⟨F, T1, true⟩ = true
    · rw [hA2]
      have HP : Hid (pEnd L F T1 tt pre = some ⟨F, T1, true⟩) := by unfold Hid pEnd; rw [if_neg HA.out, if_pos hA2]
      obtain ⟨ht, p0, p1, p2, r0, r1, r2⟩ := blk3 HK0.out
      have HT : Hid _ := ht
      obtain ⟨_, g0, g1, g2, _, _, _⟩ := blk3 HK1.out
      clear ht hA2
      go_wp2
      try simp only [Exit.inBlock, Exit.then]
      refine bodyPost_ret (v := .tuple #[cv ⟨F, T1, true⟩, .bool true]) ?_ rfl ⟨?_, ?_⟩
      · exact results_cell_mid (p := 8) (u := 9) (ty := 69) rfl _ _ w.heap.size 0 (cl ⟨F, T1, true⟩) _ rfl (World.rangeAt_setCells_same w2 w.heap.size 0 (cl ⟨F, T1, true⟩) HT.out) Try.underlying69 rfl size69
      · rw [HP.out]; rfl
      · exact below_wsets (Nat.le_refl _) (cl ⟨F, T1, true⟩) 0 hb2
    · rw [Bool.eq_false_iff.2 hA2]
      have HA2 : Hid (¬ has L ⟨F, T1, true⟩ = true) := hA2
      clear hA2
      cases pre with
      | false =>
        have HP : Hid (pEnd L F T1 tt false = none) := by unfold Hid pEnd; rw [if_neg HA.out, if_neg HA2.out]; rfl
        obtain ⟨ht, p0, p1, p2, r0, r1, r2⟩ := blk3 HK0.out
        have HT : Hid _ := ht
        clear ht
        go_wp2
        try simp only [Exit.inBlock, Exit.then]
        refine bodyPost_ret (v := .tuple #[cv c0, .bool false]) ?_ rfl ⟨?_, ?_⟩
        · exact results_cell_mid (p := 8) (u := 9) (ty := 69) rfl _ _ w.heap.size 0 (cl c0) _ rfl (World.rangeAt_setCells_same w2 w.heap.size 0 (cl c0) HT.out) Try.underlying69 rfl size69
        · rw [HP.out]; rfl
        · exact below_wsets (Nat.le_refl _) (cl c0) 0 hb2
      | true =>
        have HP0 : Hid (pEnd L F T1 tt true = seek L F tt.toNat) := by unfold Hid pEnd; rw [if_neg HA.out, if_neg HA2.out]; rfl
        clear HA HA2 HK1
        go_wp2
        go_loopg [12, 13, 14] n (fun gn sb sf si wr => ∃ (k : Nat) (best : Int) (found : Bool), k + gn = n ∧ si = .int .i64 k ∧ sb = .int .i64 best ∧ sf = .bool found ∧ At L F tt k best found ∧ Below w2.heap.size w2 wr)
        case atStart => exact ⟨0, 0, false, by omega, rfl, rfl, rfl, At.zero L F tt, Below.refl _ _⟩
        case round =>
          obtain ⟨k, best, found, hkg, rfl, rfl, rfl, hat, hbel⟩ := hrel
          have HKG : Hid (k + gk = n) := hkg
          have hk : k ≤ n := by omega
          have hgk : k < n → 0 < gk := by omega
          have HAt : Hid (At L F tt k best found) := hat
          clear hkg hat
          have hbw : Below w.heap.size w wr := hb2.trans (hbel.mono hb2.size)
          by_cases hlt : k < n
          · obtain ⟨b, off, hx, hb, hc⟩ := HF.out (by omega)
            subst hx
            obtain ⟨e0, e1, e2, _, _, _⟩ := hc k hlt
            have d0 := (hbw.cell (p := ⟨b, off + k * 6, none⟩) (by exact hb)).trans e0
            have d1 := (hbw.cell (p := ⟨b, off + k * 6 + 1, none⟩) (by exact hb)).trans e1
            have d2 := (hbw.cell (p := ⟨b, off + k * 6 + 2, none⟩) (by exact hb)).trans e2
            clear e0 e1 e2 hc
            obtain ⟨x, hx⟩ : ∃ x, x = (ke L k).f := ⟨_, rfl⟩
            obtain ⟨y, hy⟩ : ∃ y, y = (ke L k).t := ⟨_, rfl⟩
            obtain ⟨z, hz⟩ : ∃ z, z = (ke L k).m := ⟨_, rfl⟩
            rw [← hx] at d0
            rw [← hy] at d1
            rw [← hz] at d2
            have HX : Hid (x = (ke L k).f) := hx
            have HY : Hid (y = (ke L k).t) := hy
            clear hx hy hz
            by_cases c1 : x = F
            · have t1 : (x == F) = true := by simpa using c1
              have HC1 : Hid (x = F) := c1
              clear c1
              by_cases c2 : 0 ≤ y
              · have t2 : decide (0 ≤ y) = true := decide_eq_true c2
                have HC2 : Hid (0 ≤ y) := c2
                clear c2
                by_cases c3 : y < tt
                · have t3 : decide (y < tt) = true := decide_eq_true c3
                  have HFit : Hid (Fits L F tt k) := ⟨by rw [← HX.out]; exact HC1.out, by rw [← HY.out]; exact HC2.out, by rw [← HY.out]; exact c3⟩
                  clear c3
                  cases found with
                  | false =>
                    go_wp2
                    go_roundg (gk - 1)
                    case measure => have := hgk hlt; omega
                    case rel => exact ⟨k + 1, y, true, by have := HKG.out; have := hgk hlt; omega, by go_num, rfl, rfl, by rw [HY.out]; exact At.take (best := best) HAt.out HFit.out (fun e => by cases e), hbel.alloc hbel.size _⟩
                  | true =>
                    by_cases c5 : y < best
                    · have t5 : decide (y < best) = true := decide_eq_true c5
                      have HC5 : Hid (y < best) := c5
                      clear c5
                      go_wp2
                      go_roundg (gk - 1)
                      case measure => have := hgk hlt; omega
                      case rel => exact ⟨k + 1, y, true, by have := HKG.out; have := hgk hlt; omega, by go_num, rfl, rfl, by rw [HY.out]; exact At.take (best := best) HAt.out HFit.out (fun _ => by rw [← HY.out]; exact HC5.out), hbel.alloc hbel.size _⟩
                    · have t5 : decide (y < best) = false := decide_eq_false c5
                      have HC5 : Hid (¬ y < best) := c5
                      clear c5
                      go_wp2
                      go_roundg (gk - 1)
                      case measure => have := hgk hlt; omega
                      case rel => exact ⟨k + 1, best, true, by have := HKG.out; have := hgk hlt; omega, by go_num, rfl, rfl, At.keep HAt.out (.inr ⟨rfl, by rw [← HY.out]; have := HC5.out; omega⟩), hbel.alloc hbel.size _⟩
                · have t3 : decide (y < tt) = false := decide_eq_false c3
                  have HFit : Hid (¬ Fits L F tt k) := fun h => c3 (by rw [HY.out]; exact h.2.2)
                  clear c3
                  go_wp2
                  go_roundg (gk - 1)
                  case measure => have := hgk hlt; omega
                  case rel => exact ⟨k + 1, best, found, by have := HKG.out; have := hgk hlt; omega, by go_num, rfl, rfl, At.keep HAt.out (.inl HFit.out), hbel.alloc hbel.size _⟩
              · have t2 : decide (0 ≤ y) = false := decide_eq_false c2
                have HFit : Hid (¬ Fits L F tt k) := fun h => c2 (by rw [HY.out]; exact h.2.1)
                clear c2
                go_wp2
                go_roundg (gk - 1)
                case measure => have := hgk hlt; omega
                case rel => exact ⟨k + 1, best, found, by have := HKG.out; have := hgk hlt; omega, by go_num, rfl, rfl, At.keep HAt.out (.inl HFit.out), hbel.alloc hbel.size _⟩
            · have t1 : (x == F) = false := by simpa using c1
              have HFit : Hid (¬ Fits L F tt k) := fun h => c1 (by rw [HX.out]; exact h.1)
              clear c1
              go_wp2
              go_roundg (gk - 1)
              case measure => have := hgk hlt; omega
              case rel => exact ⟨k + 1, best, found, by have := HKG.out; have := hgk hlt; omega, by go_num, rfl, rfl, At.keep HAt.out (.inl HFit.out), hbel.alloc hbel.size _⟩
          · have hkn : k = L.length := by rw [← HN.out]; omega
            have HAt2 : Hid (At L F tt L.length best found) := by rw [← hkn]; exact HAt.out
            clear hkn HAt
            cases found with
            | false =>
              have HP : Hid (pEnd L F T1 tt true = none) := HP0.out.trans HAt2.out.none
              obtain ⟨ht, p0, p1, p2, r0, r1, r2⟩ := blk3 ((hbel.block _ (by omega)).trans HK0.out)
              have HT : Hid _ := ht
              clear ht
              go_wp2
              try simp only [Exit.inBlock, Exit.then]
              refine bodyPost_ret (v := .tuple #[cv c0, .bool false]) ?_ rfl ⟨?_, ?_⟩
              · exact results_cell_mid (p := 8) (u := 9) (ty := 69) rfl _ _ w.heap.size 0 (cl c0) _ rfl (World.rangeAt_setCells_same wr w.heap.size 0 (cl c0) HT.out) Try.underlying69 rfl size69
              · rw [HP.out]; rfl
              · exact below_wsets (Nat.le_refl _) (cl c0) 0 hbw
            | true =>
              have HP0 : Hid (pEnd L F T1 tt true = some (if has L ⟨F, best, false⟩ = true then ⟨F, best, false⟩ else ⟨F, best, true⟩)) := HP0.out.trans HAt2.out.some
              go_wp2_with fail
              have hB : Below w.heap.size w (wr.alloc (.cells #[.int .i64 F, .int .i64 best, .bool false] 69)) := hbw.alloc hbw.size _
              have hk0 : (wr.alloc (.cells #[.int .i64 F, .int .i64 best, .bool false] 69)).heap[w.heap.size]? = some (.cells #[.int .i64 0, .int .i64 0, .bool false] 69 (0, 0)) := by
                rw [heap_alloc_old _ _ (by have := hbel.size; omega)]; exact (hbel.block _ (by omega)).trans HK0.out
              have hk1 : (wr.alloc (.cells #[.int .i64 F, .int .i64 best, .bool false] 69)).heap[wr.heap.size]? = some (.cells #[.int .i64 F, .int .i64 best, .bool false] 69 (0, 0)) := heap_alloc_new _ _
              have hl1 : wr.heap.size < (wr.alloc (.cells #[.int .i64 F, .int .i64 best, .bool false] 69)).heap.size := by simp
              have hl2 : w.heap.size < wr.heap.size := by have := hbel.size; omega
              refine (reached49' ⟨F, best, false⟩ _ (HE.out.below hB) hs).mono ?_
              rintro e w3 ⟨rfl, b3⟩
              have HK0 : Hid (w3.heap[w.heap.size]? = some (.cells #[.int .i64 0, .int .i64 0, .bool false] 69 (0, 0))) := (b3.block _ (by omega)).trans hk0
              have HK1 : Hid (w3.heap[wr.heap.size]? = some (.cells #[.int .i64 F, .int .i64 best, .bool false] 69 (0, 0))) := (b3.block _ hl1).trans hk1
              have hb3 := hB.trans (b3.mono hB.size)
              clear b3 hB hk0 hk1 hl1
              obtain ⟨ht, p0, p1, p2, r0, r1, r2⟩ := blk3 HK0.out
              obtain ⟨_, g0, g1, g2, q0, q1, q2⟩ := blk3 HK1.out
              by_cases hA3 : has L ⟨F, best, false⟩ = true
              · rw [hA3]
                have HP : Hid (pEnd L F T1 tt true = some ⟨F, best, false⟩) := by unfold Hid; rw [HP0.out, if_pos hA3]
                have HT : Hid _ := ht
                clear ht hA3
                go_wp2
                try simp only [Exit.inBlock, Exit.then]
                refine bodyPost_ret (v := .tuple #[cv ⟨F, best, false⟩, .bool true]) ?_ rfl ⟨?_, ?_⟩
                · exact results_cell_mid (p := 8) (u := 9) (ty := 69) rfl _ _ w.heap.size 0 (cl ⟨F, best, false⟩) _ rfl (World.rangeAt_setCells_same w3 w.heap.size 0 (cl ⟨F, best, false⟩) HT.out) Try.underlying69 rfl size69
                · rw [HP.out]; rfl
                · exact below_wsets (Nat.le_refl _) (cl ⟨F, best, false⟩) 0 hb3
              · rw [Bool.eq_false_iff.2 hA3]
                have HP : Hid (pEnd L F T1 tt true = some ⟨F, best, true⟩) := by unfold Hid; rw [HP0.out, if_neg hA3]
                have HT : Hid _ := World.there_setCells ht wr.heap.size 2 [.bool true]
                have hne : ¬ w.heap.size = wr.heap.size := by omega
                clear ht hA3
                go_wp2
                try simp only [Exit.inBlock, Exit.then]
                refine bodyPost_ret (v := .tuple #[cv ⟨F, best, true⟩, .bool true]) ?_ rfl ⟨?_, ?_⟩
                · exact results_cell_mid (p := 8) (u := 9) (ty := 69) rfl _ _ w.heap.size 0 (cl ⟨F, best, true⟩) _ rfl (World.rangeAt_setCells_same (w3.setCell ⟨wr.heap.size, 2, none⟩ (.bool true)) w.heap.size 0 (cl ⟨F, best, true⟩) HT.out) Try.underlying69 rfl size69
                · rw [HP.out]; rfl
                · exact below_wsets (Nat.le_refl _) (cl ⟨F, best, true⟩) 0 (hb3.setCell (p := ⟨wr.heap.size, 2, none⟩) (Nat.le_of_lt hl2) _)

end Go.Proofs.Qxb6600021a
