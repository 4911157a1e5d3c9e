/-
  add (54) on a run that shares its words: it copies them and owns them from now on.
-/
import Derived.Test.Qxb6600021aR7
namespace Go.Proofs.Qxb6600021a
open Go.RowKit
set_option linter.unusedVariables false

theorem wd_out' {ws : List Int} {i : Nat} (h : ¬ i < ws.length) : wd ws i = 0 := by
  simp [wd, List.getD, show ws.length ≤ i by omega]
theorem andU_zero' (b : Int) : bits .and .u64 0 b = 0 := by
  have e : (BitVec.ofInt 64 0 &&& BitVec.ofInt 64 b) = 0#64 := by simp
  unfold bits
  show IntKind.wrap .u64 (((BitVec.ofInt 64 0 &&& BitVec.ofInt 64 b).toNat : Nat) : Int) = 0
  rw [e]
  rfl
theorem made_zeros (N : Nat) : (madeCells (Value.int .u64 0).cells (N * 1)).toList = u64s (zeros N) := by
  rw [Nat.mul_one]
  show (madeCells #[Value.int .u64 0] N).toList = _
  rw [toList_madeCells_one]
  simp [u64s, zeros]

theorem made_zeros' (N : Nat) : (madeCells #[Value.int .u64 0] N).toList = u64s (zeros N) := by
  rw [toList_madeCells_one]
  simp [u64s, zeros]

/-- copy into a row of the call's own, from whatever slice: a law for the walk. -/
theorem wpList_copy_from {P : Program} {w : World} {ops : Array Oper} {rest : List Oper} {o : Oper} {a : Act} {Q : Exit → Act → World → Prop} (hgd : o.guard = none) (d s : Operand) (dT sT : TypeId)
    (ho : o.op = .call { callee := .builtin .copy, args := #[d, s], argTypes := #[dT, sT] }) (elem : TypeId) (i : TypeInfo) (size : Nat) (hu : P.underlying dT = some (.slice elem)) (hi : P.info? elem = some i) (hsz : i.size = size) (hs0 : 0 < size)
    (sp : Option Addr) (sLen sCap : Nat) (base g n cap : Nat) (hd : a.eval d = .slice (some ⟨g, 0, none⟩) n cap) (hs : a.eval s = .slice sp sLen sCap)
    (xs : List Value) (hown : w.ownsRow base elem size (.slice (some ⟨g, 0, none⟩) n cap) n xs) (cs : List Value) (hn : cs.length = Nat.min sLen n * size)
    (hpos : 0 < cs.length → ∃ ad, sp = some ad ∧ ∀ j v, cs[j]? = some v → w.cell? (ad.add j) = some v) (h1 : ∀ v ∈ cs, v.oneCell' = true)
    (h : ∀ w', w'.ownsRow base elem size (.slice (some ⟨g, 0, none⟩) n cap) n (cs ++ xs.drop cs.length) → w.grownBy w' (some g) → wpList P ops Q rest (a.put o.dst (goInt (Nat.min sLen n))) w') :
    wpList P ops Q (o :: rest) a w := by
  subst hsz
  refine wpList_plain hgd fun K hK => ?_
  by_cases h0 : cs.length = 0
  · have hmin : Nat.min sLen n = 0 := by
      rw [h0] at hn
      rcases Nat.mul_eq_zero.1 hn.symm with e | e
      · exact e
      · omega
    obtain rfl : cs = [] := List.eq_nil_of_length_eq_zero h0
    have hrun := run_copy_zero (P := P) w dT sT o.type elem i (some ⟨g, 0, none⟩) sp n cap sLen sCap hu hi hmin
    unfold Oper.wp
    simp [execOp, ho, resolve, invoke, builtin, hd, hs, hrun, Result.andThen]
    have hk := h w (by simpa using hown) (World.grownBy.refl _ _)
    rw [hmin] at hk
    exact hK _ _ hk
  · obtain ⟨ad, rfl, hsrc⟩ := hpos (by omega)
    rcases hown.2 with ⟨h', _⟩ | ⟨g', cap', cur, h', hb, hg, hnc, hcm, hcs, htake⟩
    · simp at h'
    · simp only [Value.slice.injEq, Option.some.injEq, Addr.mk.injEq, and_true, true_and] at h'
      obtain ⟨rfl, rfl⟩ := h'
      have hcl : n * i.size ≤ cur.size := by rw [hcs]; exact Nat.mul_le_mul_right _ hnc
      have hle : cs.length ≤ n * i.size := by rw [hn]; exact Nat.mul_le_mul_right _ (Nat.min_le_right _ _)
      have hrun := run_copy_sz (P := P) w dT sT o.type elem i g 0 n cap ad sLen sCap cur elem cs hu hi hg hn hsrc (by omega) h1
      unfold Oper.wp
      simp [execOp, ho, resolve, invoke, builtin, hd, hs, hrun, Result.andThen]
      have hxl := hown.1
      have hk := h (w.setRow g (cs ++ cur.toList.drop cs.length).toArray) ⟨by simp; omega, .inr ⟨g, cap, _, rfl, hb, setRow_heap w g cur _ elem _ hg, hnc, hcm, ?_, ?_⟩⟩
        ⟨rfl, rfl, rfl, by simp [World.setRow], fun k _ hk => setRow_other w g k _ (fun e => hk (by simp [e]))⟩
      · exact hK _ _ hk
      · simp; omega
      · have e1 : cur.toList = xs ++ cur.toList.drop (n * i.size) := by rw [← htake, List.take_append_drop]
        rw [e1]
        have a2 : List.drop cs.length (xs ++ List.drop (n * i.size) cur.toList) = List.drop cs.length xs ++ List.drop (n * i.size) cur.toList := by rw [List.drop_append_of_le_length (by omega)]
        rw [a2, ← List.append_assoc]
        have hl2 : (cs ++ List.drop cs.length xs).length = n * i.size := by simp; omega
        show List.take (n * i.size) (cs ++ List.drop cs.length xs ++ _) = _
        rw [← hl2]
        exact List.take_left

end Go.Proofs.Qxb6600021a
