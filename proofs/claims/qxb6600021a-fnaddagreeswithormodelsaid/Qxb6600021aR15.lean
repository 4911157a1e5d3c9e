/-
  The OR model and the run under one script: plain.
-/
import Derived.Test.Qxb6600021aR14
namespace Go.Proofs.Qxb6600021a
open Go.RowKit
set_option linter.unusedVariables false

/-- The size that the law reckons. -/
def szTo (n : Nat) (is : List Int) : Nat → Nat
  | 0 => n
  | k + 1 => max (szTo n is k) ((wd is k).toNat + 1)

/-- The model after k adds. -/
def mdl (l : List Int) (is bs : List Int) : Nat → List Int
  | 0 => l
  | k + 1 => setW (mdl l is bs k) (wd is k).toNat (wd bs k)

theorem mdl_length (l is bs : List Int) : ∀ k, (mdl l is bs k).length = l.length := by
  intro k
  induction k with
  | zero => rfl
  | succ k ih => rw [mdl, setW_length, ih]

theorem szTo_mono (n : Nat) (is : List Int) : ∀ m k, k ≤ m → szTo n is k ≤ szTo n is m := by
  intro m
  induction m with
  | zero => intro k hk; have : k = 0 := by omega
            rw [this]; exact Nat.le_refl _
  | succ m ih =>
    intro k hk
    by_cases e : k = m + 1
    · rw [e]; exact Nat.le_refl _
    · have := ih k (by omega)
      show _ ≤ max _ _
      omega
theorem szTo_idx (n : Nat) (is : List Int) {m k : Nat} (hk : k < m) : (wd is k).toNat < szTo n is m := by
  have := szTo_mono n is m (k + 1) (by omega)
  have e : szTo n is (k + 1) = max (szTo n is k) ((wd is k).toNat + 1) := rfl
  omega
theorem szTo_bound (n : Nat) (is : List Int) (hn : n ≤ 65536) : ∀ m, (∀ k, k < m → 0 ≤ wd is k ∧ wd is k ≤ 65536) → szTo n is m ≤ 65537 := by
  intro m
  induction m with
  | zero => intro _; show n ≤ _; omega
  | succ m ih =>
    intro h
    have h1 := ih (fun k hk => h k (by omega))
    have h2 := h m (by omega)
    show max _ _ ≤ _
    omega

theorem pad_nil (N : Nat) : pad [] N = zeros N := by simp [pad]
theorem pad_step (ws : List Int) (N j : Nat) (hj : j < ws.length) (hN : ws.length ≤ N) : (pad (ws.take j) N).set j (wd ws j) = pad (ws.take (j + 1)) N := by
  have hl1 : (pad (ws.take j) N).length = N := by rw [pad_length, List.length_take]; omega
  have hl2 : (pad (ws.take (j + 1)) N).length = N := by rw [pad_length, List.length_take]; omega
  apply List.ext_getElem?
  intro l
  by_cases hl : l < N
  · have e : ∀ (L : List Int), l < L.length → L[l]? = some (wd L l) := fun L h => by simp [wd, List.getD, h]
    rw [e _ (by rw [List.length_set, hl1]; exact hl), e _ (by rw [hl2]; exact hl)]
    have hw : ∀ t, wd (ws.take t) l = if l < t then wd ws l else 0 := fun t => by
      unfold wd
      simp only [List.getD_eq_getElem?_getD, List.getElem?_take]
      split <;> rfl
    congr 1
    have hset : wd ((pad (ws.take j) N).set j (wd ws j)) l = if l = j then wd ws j else wd (pad (ws.take j) N) l := by
      unfold wd
      simp only [List.getD_eq_getElem?_getD, List.getElem?_set]
      by_cases e2 : j = l
      · subst e2; rw [if_pos rfl, if_pos (by rw [hl1]; exact hl), if_pos rfl]; rfl
      · rw [if_neg e2, if_neg (fun h => e2 h.symm)]
    rw [hset, wd_pad, wd_pad, hw, hw]
    by_cases e2 : l = j
    · subst e2; rw [if_pos rfl, if_pos (by omega)]
    · rw [if_neg e2]
      by_cases h3 : l < j
      · rw [if_pos h3, if_pos (by omega)]
      · rw [if_neg h3, if_neg (by omega)]
  · rw [List.getElem?_eq_none (by rw [List.length_set, hl1]; omega), List.getElem?_eq_none (by rw [hl2]; omega)]

/-- The run and the model agree, step by step. -/
theorem run_model {ws is bs : List Int} {own : Bool} {m : Nat} (hw : ws.length ≤ 65536) (hwr : ∀ k, 0 ≤ wd ws k ∧ wd ws k < 18446744073709551616) (hbr : ∀ k, 0 ≤ wd bs k ∧ wd bs k < 18446744073709551616)
    (hi : ∀ k, k < m → 0 ≤ wd is k ∧ wd is k ≤ 65536) (hs : ∀ k, k < m → sgl (wd bs k)) : ∀ k, k ≤ m →
    Inv (steps ⟨ws, own, []⟩ is bs k) ∧ Rng (steps ⟨ws, own, []⟩ is bs k) ∧ len (steps ⟨ws, own, []⟩ is bs k) = (szTo ws.length is k : Int) ∧
      ∀ j, view (steps ⟨ws, own, []⟩ is bs k) j = wd (mdl (pad ws (szTo ws.length is m)) is bs k) j := by
  intro k
  induction k with
  | zero =>
    intro _
    refine ⟨⟨fun _ => rfl, by show ([] : List (Int × Int)).length ≤ 8; simp, fun a c _ h2 => by simp [steps] at h2, fun j hj => by simp [steps] at hj, by show ws.length ≤ 65537; omega⟩, ⟨hwr, fun j hj => by simp [steps] at hj⟩, ?_, fun j => ?_⟩
    · rw [len_nil _ rfl]; rfl
    · show viewW ws [] j = wd (pad _ _) j
      rw [wd_pad]; simp [viewW, fnd]
  | succ k ih =>
    intro hk
    obtain ⟨h1, h2, h3, h4⟩ := ih (by omega)
    have hik := hi k (by omega)
    have hin : (wd is k).toNat ≤ 65536 := by omega
    have hv := add_view _ h1 h2 (wd is k).toNat (wd bs k) hin (hbr k).1 (hbr k).2 (hs k (by omega))
    refine ⟨(add_shape _ h1 (wd is k).toNat (wd bs k) hin).1, hv.2.1, ?_, fun j => ?_⟩
    · show len (addSt _ _ _) = ((max _ _ : Nat) : Int)
      rw [hv.2.2, h3]; omega
    · show view (addSt _ _ _) j = wd (setW _ _ _) j
      have hx := szTo_idx ws.length is (show k < m by omega)
      rw [hv.1, wd_setW _ _ _ (by rw [mdl_length, pad_length]; omega), h4, h4]

theorem setW_u64 {wr : World} {base g N c i : Nat} {l : List Int} {b : Int} (h : wr.ownsRow base 29 1 (.slice (some ⟨g, 0, none⟩) N c) N (u64s l)) : (wr.setCell ⟨g, i, none⟩ (.int .u64 (orU (wd l i) b))).ownsRow base 29 1 (.slice (some ⟨g, 0, none⟩) N c) N (u64s (setW l i b)) := by
  unfold setW
  rw [u64s_set]
  exact (h.stored i _).1

theorem RunS.beside {wr : World} {base R g i : Nat} {s : St} {x : Value} (h : RunS wr base R s) (hg : g < base) : RunS (wr.setCell ⟨g, i, none⟩ x) base R s := by
  obtain ⟨vw, vc, h⟩ := h
  have hle := h.le
  exact ⟨vw, vc, run_beside (N := 0) (c := 0) (xs := []) h (by omega) (fun e => by have := (h.words.lt g e).1; omega) (fun e => by have := (h.chg.lt g e).1; omega)⟩

theorem view33q {v0 v1 : Value} {ws : List Int} {ch : List (Int × Int)} (k : Nat) (w : World) (nq : Nat) (hk : k ≤ 1048576) (h0 : Ns .u64 w v0 ws) (h1 : Prs w v1 ch) (hq : ch.length ≤ 8) :
    Calls Try.prog 33 #[v0, v1, .int .i64 (k : Int)] (w.drewN nq) fun e w' => e = .returned (.int .u64 (viewW ws ch k)) ∧ w' = w.drewN nq :=
  view33 k (w.drewN nq) hk (h0.below (below_drewN (Below.refl _ _) nq)) (h1.below (below_drewN (Below.refl _ _) nq)) hq

end Go.Proofs.Qxb6600021a
