/-
  appendSpaces (11), ZZappendSpaces (7), clampZero (8), zzBytes (5), FnAppendSpacesExact (3).
-/
import Derived.Test.Qxb6601132aBase
namespace Go.Proofs.Qxb6601132a
open Go.RowKit
set_option linter.unusedVariables false

def blanks (k : Nat) : List Int := List.replicate k 32
theorem blanks_length (k : Nat) : (blanks k).length = k := by simp [blanks]
theorem blanks_snoc (k : Nat) : blanks (k + 1) = blanks k ++ [32] := by simp [blanks, List.replicate_succ']
theorem u8s_blanks (ns : List Int) (k : Nat) : u8s (ns ++ blanks k) ++ [.int .u8 32] = u8s (ns ++ blanks (k + 1)) := by
  rw [blanks_snoc]; simp [u8s]

theorem new_one {w : World} {B : Nat} (hB : w.heap.size = B) (x : Value) (t : TypeId) : ∀ j u, [x][j]? = some u → (w.alloc (.cells #[x] t)).cell? ((⟨B, 0, none⟩ : Addr).add j) = some u := by
  subst hB
  intro j u hu
  rw [Addr.add_lit, Nat.zero_add]
  rw [cell_of_row _ w.heap.size j #[x] t (0, 0) (heap_alloc_new w _)]
  simpa using hu
theorem one_oneCell {x : Int} {k : IntKind} : ∀ u ∈ [Value.int k x], u.oneCell' = true := by
  intro u hu
  simp at hu
  subst hu
  rfl

set_option maxHeartbeats 400000 in
theorem spaces11_none (a : Option Addr) (n c : Nat) (z : Int) (hz : z ≤ 0) (w : World) :
    Calls Try.prog 11 #[.slice a n c, .int .i64 z] w fun e w' => e = .returned (.slice a n c) ∧ w' = w := by
  go_enter Try.func11, Try.ntmps11
  go_wp2
  go_loopw [0, 6] (fun sv sk wr => sv = .slice a n c ∧ sk = .int .i64 0 ∧ wr = w) (fun _ _ _ => 0)
  case atStart => exact ⟨rfl, rfl, rfl⟩
  case round =>
    obtain ⟨rfl, rfl, rfl⟩ := hrel
    go_wp2
    go_ret
    exact ⟨rfl, rfl⟩

theorem grow_below {w wr w1 : World} {v : Value} {o : Obj} (hbel : Below w.heap.size w wr) (hv : ∀ k, v.ownBlock = some k → w.heap.size ≤ k) (hg : (wr.alloc o).grownBy w1 v.ownBlock) : Below w.heap.size w w1 :=
  (hbel.alloc hbel.size o).grown hg (by simp; have := hbel.size; omega) hv

set_option maxHeartbeats 400000 in
theorem spaces11_some {base : Nat} {a : Option Addr} {n : Nat} {ns : List Int} (z : Int) (hz : z ≤ 65536) (hz1 : 1 ≤ z) (w : World) (hn : n = ns.length) (hs : n ≤ 1048576) (hown : w.ownsRow base 5 1 (.slice a n n) n (u8s ns)) :
    Calls Try.prog 11 #[.slice a n n, .int .i64 z] w fun e w' => ∃ g c', e = .returned (.slice (some ⟨g, 0, none⟩) (n + z.toNat) c') ∧ w'.ownsRow w.heap.size 5 1 (.slice (some ⟨g, 0, none⟩) (n + z.toNat) c') (n + z.toNat) (u8s (ns ++ blanks z.toNat)) ∧ Below w.heap.size w w' := by
  obtain ⟨i0, hi, hz0, hz1', hz2⟩ := info_parts info5
  obtain ⟨a1, c1, hv1, _, _, hnone, hsome⟩ := own_form hown
  simp only [Value.slice.injEq, true_and] at hv1
  obtain ⟨rfl, rfl⟩ := hv1
  have hcells : ∀ b, a = some b → ∀ j u, (u8s ns)[j]? = some u → w.cell? (b.add j) = some u := by
    intro b hb j u hu
    have hj : j < n := by have := (List.getElem?_eq_some_iff.1 hu).1; simp [u8s] at this; omega
    obtain ⟨g, hg, _, _⟩ := hsome (by omega)
    rw [hb] at hg
    obtain rfl := Option.some.inj hg
    subst hb
    exact hown.cells (g := g) rfl j u hu
  have hul : (u8s ns).length = n * 1 := by simp [u8s]; omega
  have HC : Hid _ := hcells
  have HNone : Hid _ := hnone
  have HN : Hid (n = ns.length) := hn
  have HU : Hid _ := hul
  clear hown hn hcells hnone hsome hul
  go_enter Try.func11, Try.ntmps11
  go_wp2
  go_loopg [0, 6] z.toNat (fun g sv sk wr => ∃ (k : Nat) (v : Value), k + g = z.toNat ∧ sk = .int .i64 k ∧ sv = v ∧ ((k = 0 ∧ v = .slice a n n ∧ wr = w) ∨ (0 < k ∧ wr.ownsRow w.heap.size 5 1 v (n + k) (u8s (ns ++ blanks k)) ∧ Below w.heap.size w wr)))
  case atStart => exact ⟨0, .slice a n n, by omega, rfl, rfl, .inl ⟨rfl, rfl, rfl⟩⟩
  case round =>
    obtain ⟨k, v, hkg, rfl, rfl, hor⟩ := hrel
    have HKG : Hid _ := hkg
    have hk : (k : Int) < z → 0 < gk := by omega
    have hk2 : ¬ (k : Int) < z → k = z.toNat := by omega
    have hk3 : k ≤ 65536 := by omega
    have HK2 : Hid _ := hk2
    clear hkg hk2
    rcases hor with ⟨rfl, rfl, rfl⟩ | ⟨hk0, hown, hbel⟩
    · have hlt : (0 : Int) < z := by omega
      go_wp2_with (at_builtin; refine wpList_append_grows _ rfl (.tmp 8) (.tmp 9) 22 rfl 5 i0 (.int .u8 0) 1 1 Try.underlying22 hi hz0 hz1' hz2 rfl (by decide) a n n (u8s ns) rfl HNone.out HU.out ?b0 ⟨wr.heap.size, 0, none⟩ 1 1 [.int .u8 32] rfl rfl (new_one rfl _ _) one_oneCell (by omega) ?b1 ?b2 ?_)
      case b0 =>
        intro b hb j u hu
        have h1 := HC.out b hb j u hu
        rw [← h1]
        exact World.cell?_of_block (w := wr) (Below.heap_alloc wr _ _ (by have := World.block_lt_of_cell? wr _ h1; simpa [Addr.add] using this))
      case b1 => unfold maxLen; omega
      case b2 => omega
      intro v' w1 hown' hgrow
      obtain ⟨a', c', hv', _, _, _, _⟩ := own_form hown'
      have hb1 : Below wr.heap.size wr w1 := ((Below.refl _ _).alloc (Nat.le_refl _) _).grown hgrow (by simp) (fun j hj => by cases hj)
      have ho1 : w1.ownsRow wr.heap.size 5 1 v' (n + (0 + 1)) (u8s (ns ++ blanks (0 + 1))) := by
        obtain ⟨e1, e2⟩ := hown'
        have ee : u8s ns ++ [Value.int .u8 32] = u8s (ns ++ blanks (0 + 1)) := by simp [u8s, blanks]
        rw [← ee]
        refine ⟨e1, ?_⟩
        rcases e2 with ⟨_, e3⟩ | ⟨g, cap, cur, q1, q2, q3⟩
        · omega
        · exact .inr ⟨g, cap, cur, q1, by first | omega | (simp at q2; omega), q3⟩
      subst hv'
      have HO1 : Hid _ := ho1
      clear hown' hgrow ho1
      go_wp2
      go_roundg (gk - 1)
      case measure => have := hk hlt; omega
      case rel => exact ⟨0 + 1, _, by have := HKG.out; have := hk hlt; omega, by go_num, rfl, .inr ⟨by omega, HO1.out, hb1⟩⟩
    · by_cases hlt : (k : Int) < z
      · go_wp2_with (at_builtin; refine wpList_append_own _ rfl (.tmp 8) (.tmp 9) 22 rfl w.heap.size 5 i0 (.int .u8 0) 1 1 Try.underlying22 hi hz0 hz1' hz2 rfl (by decide) _ _ _ rfl (hown.alloc _) ⟨wr.heap.size, 0, none⟩ 1 1 [.int .u8 32] rfl rfl (new_one rfl _ _) one_oneCell ?b1 ?b2 ?b3 ?_)
        case b1 => unfold maxLen; omega
        case b2 => omega
        case b3 => have := hbel.size; first | omega | (simp; omega)
        intro v' w1 hown' hgrow hnil'
        have hb1 := grow_below hbel (fun j hj => (hown.lt j hj).1) hgrow
        rw [u8s_blanks] at hown'
        have HO1 : Hid _ := hown'
        clear hown' hgrow hnil' hown
        go_wp2
        go_roundg (gk - 1)
        case measure => have := hk hlt; omega
        case rel => exact ⟨k + 1, v', by have := HKG.out; have := hk hlt; omega, by go_num, rfl, .inr ⟨by omega, HO1.out, hb1⟩⟩
      · have e := HK2.out hlt
        obtain ⟨a', c', hv, _, _, _, hg⟩ := own_form hown
        obtain ⟨g, rfl, _, _⟩ := hg (by omega)
        subst hv
        have HO2 : Hid _ := hown
        have HE : Hid _ := e
        clear hown e hg
        go_wp2
        go_ret
        have hE := HE.out
        refine ⟨g, c', ?_, ?_, hbel⟩
        · rw [← hE]; rfl
        · rw [← hE]; exact HO2.out

end Go.Proofs.Qxb6601132a
