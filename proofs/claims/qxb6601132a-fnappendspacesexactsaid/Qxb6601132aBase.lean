/-
  Words of this seat's walks: what a slice of bytes reads as ('Ns'), carried over worlds by 'Below'.
-/
import Derived.Test.Qxb6601132aProg
import Derived.WalkKit
import Derived.WalkSpells
import Derived.WalkLawsBesides
import Derived.BigQuiet
import Derived.Deep.QuietTactic
import Derived.Deep.LoopGhost
namespace Go.Proofs.Qxb6601132a
open Go.RowKit
set_option linter.unusedVariables false

def wd (ws : List Int) (i : Nat) : Int := ws.getD i 0

/-- The slice value v reads as the bytes ns in w. -/
def Ns (w : World) (v : Value) (ns : List Int) : Prop :=
  ∃ a cap, v = .slice a ns.length cap ∧ ns.length ≤ cap ∧ cap ≤ maxLen ∧ (a = none → cap = 0) ∧
    (0 < ns.length → ∃ b off, a = some ⟨b, off, none⟩ ∧ b < w.heap.size ∧ ∀ i, i < ns.length → w.cell? ⟨b, off + i, none⟩ = some (.int .u8 (wd ns i)))

theorem Ns.form {w : World} {v : Value} {ns : List Int} (h : Ns w v ns) : ∃ a n c, v = .slice a n c ∧ n = ns.length ∧ (a = none → n = 0 ∧ c = 0) ∧ n ≤ maxLen ∧
    (0 < n → ∃ b off, a = some ⟨b, off, none⟩ ∧ b < w.heap.size ∧ ∀ i, i < n → w.cell? ⟨b, off + i, none⟩ = some (.int .u8 (wd ns i))) := by
  obtain ⟨a, cap, rfl, h1, h2, h3, h5⟩ := h
  exact ⟨a, ns.length, cap, rfl, rfl, fun e => by have := h3 e; exact ⟨by omega, this⟩, Nat.le_trans h1 h2, h5⟩

theorem Ns.below {w w' : World} {v : Value} {ns : List Int} (h : Ns w v ns) (hb : Below w.heap.size w w') : Ns w' v ns := by
  obtain ⟨a, cap, rfl, h1, h2, h3, h5⟩ := h
  refine ⟨a, cap, rfl, h1, h2, h3, fun hn => ?_⟩
  obtain ⟨b, off, rfl, hlt, hc⟩ := h5 hn
  exact ⟨b, off, rfl, Nat.lt_of_lt_of_le hlt hb.size, fun j hj => by rw [hb.cell (p := ⟨b, off + j, none⟩) hlt]; exact hc j hj⟩

theorem own_form {w : World} {base e size n : Nat} {v : Value} {xs : List Value} (h : w.ownsRow base e size v n xs) :
    ∃ a c, v = .slice a n c ∧ n ≤ c ∧ c ≤ maxLen ∧ (a = none → n = 0 ∧ c = 0) ∧ (0 < n → ∃ g, a = some ⟨g, 0, none⟩ ∧ base ≤ g ∧ g < w.heap.size) := by
  obtain ⟨h1, h2⟩ := h
  rcases h2 with ⟨rfl, rfl⟩ | ⟨g, cap, cur, rfl, hb, hg, hnc, hcm, hcs, htake⟩
  · exact ⟨none, 0, rfl, Nat.le_refl _, Nat.zero_le _, fun _ => ⟨rfl, rfl⟩, fun h => absurd h (by omega)⟩
  · exact ⟨_, cap, rfl, hnc, hcm, (fun h => by cases h), fun _ => ⟨g, rfl, hb, (Array.getElem?_eq_some_iff.1 hg).1⟩⟩

def u8s (ns : List Int) : List Value := ns.map (Value.int .u8)
theorem u8s_at (ws : List Int) (i : Nat) (h : i < ws.length) : (u8s ws)[i]? = some (.int .u8 (wd ws i)) := by
  simp [u8s, wd, List.getD, h]

/-- The bytes of an owned row. -/
theorem own_cell {w : World} {base g n c : Nat} {ns : List Int} (h : w.ownsRow base 5 1 (.slice (some ⟨g, 0, none⟩) n c) n (u8s ns)) (hn : n = ns.length) (i : Nat) (hi : i < n) : w.cell? ⟨g, i, none⟩ = some (.int .u8 (wd ns i)) := by
  rw [h.cellAt i (by omega)]
  exact u8s_at ns i (by omega)

theorem Ns.ofOwn {w : World} {base : Nat} {v : Value} {ns : List Int} (h : w.ownsRow base 5 1 v ns.length (u8s ns)) : Ns w v ns := by
  obtain ⟨a, c, rfl, h1, h2, h3, h4⟩ := own_form h
  refine ⟨a, c, rfl, h1, h2, fun e => (h3 e).2, fun hn => ?_⟩
  obtain ⟨g, rfl, _, hg⟩ := h4 hn
  exact ⟨g, 0, rfl, hg, fun i hi => by rw [Nat.zero_add]; exact own_cell h rfl i hi⟩

theorem own_grown {w w' : World} {base e size n : Nat} {v : Value} {xs : List Value} {row : Option Nat} (h : w.ownsRow base e size v n xs) (hg : w.grownBy w' row) (hne : ∀ k, v.ownBlock = some k → row ≠ some k) : w'.ownsRow base e size v n xs := by
  refine h.kept hg ?_
  cases hb : v.ownBlock with
  | none => exact .inl rfl
  | some k => exact .inr (fun e => hne k hb e.symm)

theorem ret_bool {a b : Bool} (h : a = b) : Ending.returned (.bool a) = .returned (.bool b) := by rw [h]

theorem q22 (w : World) (a : Option Addr) (n c n' c' : Nat) : (binOp .eql 22 (.slice a n c) (.slice none n' c')).run Try.prog w = .ok (.bool a.isNone) w := Lib.run_eql_slice_nil w _ _ a n c n' c' Try.underlying22
theorem info5 : (Try.prog.info? 5).map (fun i => (i.zero, i.size, i.bytes)) = some (some (.int .u8 0), 1, 1) := by kernel_rfl

theorem one_cell {wr : World} {base e g n cap : Nat} {cs : List Value} (hown : wr.ownsRow base e 1 (.slice (some ⟨g, 0, none⟩) n cap) n cs) (k : Nat) (hk : k < n) : ∃ v0, wr.cell? ⟨g, k, none⟩ = some v0 := by
  rw [hown.cellAt _ (by omega)]
  have := hown.1
  exact ⟨_, List.getElem?_eq_getElem (by omega)⟩

theorem one_step {wr : World} {base e g n cap k : Nat} {cs : List Value} {ns : List Int} (hown : wr.ownsRow base e 1 (.slice (some ⟨g, 0, none⟩) n cap) n cs) (hL : ns.length = n) (hlt : k < n)
    (hall : ∀ j, j < k → cs[j]? = (u8s ns)[j]?) :
    ∃ cs', (wr.setCell ⟨g, k, none⟩ (.int .u8 (wd ns k))).ownsRow base e 1 (.slice (some ⟨g, 0, none⟩) n cap) n cs' ∧ ∀ j, j < k + 1 → cs'[j]? = (u8s ns)[j]? := by
  have hl := hown.1
  refine ⟨_, (hown.stored k (.int .u8 (wd ns k))).1, fun j hj => ?_⟩
  rw [List.getElem?_set]
  by_cases e1 : k = j
  · subst e1
    rw [if_pos rfl, if_pos (by omega), u8s_at ns k (by omega)]
  · rw [if_neg e1]
    exact hall j (by omega)

theorem one_done {wr : World} {base e g n cap k : Nat} {cs : List Value} {ns : List Int} (hown : wr.ownsRow base e 1 (.slice (some ⟨g, 0, none⟩) n cap) n cs) (hL : ns.length = n) (hk : ¬ k < n)
    (hall : ∀ j, j < k → cs[j]? = (u8s ns)[j]?) : wr.ownsRow base e 1 (.slice (some ⟨g, 0, none⟩) n cap) n (u8s ns) := by
  have e : cs = u8s ns := by
    apply List.ext_getElem?
    intro j
    by_cases hj : j < n
    · exact hall j (by omega)
    · rw [List.getElem?_eq_none (by rw [hown.1]; omega), List.getElem?_eq_none (by simp [u8s]; omega)]
  subst e
  exact hown

set_option maxHeartbeats 400000 in
theorem clone6_some (x : Addr) (n c : Nat) (ns : List Int) (w : World) (hL : ns.length = n) (h1 : n ≤ 1048576)
    (hf : 0 < n → ∃ b off, some x = some (⟨b, off, none⟩ : Addr) ∧ b < w.heap.size ∧ ∀ i, i < n → w.cell? ⟨b, off + i, none⟩ = some (.int .u8 (wd ns i))) :
    Calls Try.prog 6 #[.slice (some x) n c] w fun e w' => e = .returned (.slice (some ⟨w.heap.size, 0, none⟩) n n) ∧ w'.ownsRow w.heap.size 5 1 (.slice (some ⟨w.heap.size, 0, none⟩) n n) n (u8s ns) ∧ Below w.heap.size w w' := by
  obtain ⟨i0, hi, hz0, hz1, hz2⟩ := info_parts info5
  have hq := q22
  have HF : Hid _ := hf
  clear hf
  go_enter Try.func6, Try.ntmps6
  go_wp2_with (at_make; refine wpList_make_full _ rfl _ _ 22 rfl w.heap.size 5 i0 (.int .u8 0) 1 Try.underlying22 hi hz0 hz1 _ _ _ _ n rfl rfl rfl rfl ?b2 ?b3 (Nat.le_refl _) ?_)
  case b2 => rw [hz2]; omega
  case b3 => unfold maxLen; omega
  intro w0 hown0 hgrow0
  clear hq hi hz0 hz1 hz2
  go_wp2
  go_loopw [4] (fun i wr => ∃ k : Nat, k ≤ n ∧ i = .int .i64 k ∧ Below w.heap.size w wr ∧ ∃ cs, wr.ownsRow w.heap.size 5 1 (.slice (some ⟨w.heap.size, 0, none⟩) n n) n cs ∧ ∀ j, j < k → cs[j]? = (u8s ns)[j]?) (fun i _ => n - (intOf i).toNat)
  case atStart => exact ⟨0, by omega, rfl, (Below.refl _ _).grown hgrow0 (Nat.le_refl _) (fun k h => by cases h), _, hown0, fun j h => by omega⟩
  case round =>
    obtain ⟨k, hk, rfl, hbel, cs, hown, hall⟩ := hrel
    have HA : Hid (∀ j, j < k → cs[j]? = (u8s ns)[j]?) := hall
    clear hall
    by_cases hlt : k < n
    · obtain ⟨b, off, hx, hb, hc⟩ := HF.out (by omega)
      obtain rfl := Option.some.inj hx
      have c0 := (hbel.cell (p := ⟨b, off + k, none⟩) (by exact hb)).trans (hc k hlt)
      obtain ⟨v0, o0⟩ := one_cell hown k hlt
      have f0 := hown.frozenAt k
      clear hc hx
      go_wp2
      go_roundw
      case rel => exact ⟨k + 1, by omega, by go_num, hbel.setCell (p := ⟨w.heap.size, k, none⟩) (Nat.le_refl _) _, one_step hown hL hlt HA.out⟩
      case measure => simp [intOf]; omega
    · go_wp2
      go_ret
      exact ⟨rfl, one_done hown hL hlt HA.out, hbel⟩

set_option maxHeartbeats 400000 in
theorem clone6_nil (w : World) : Calls Try.prog 6 #[.slice none 0 0] w fun e w' => e = .returned (.slice none 0 0) ∧ w' = w := by
  have hq := q22
  go_enter Try.func6, Try.ntmps6
  go_wp2
  go_ret
  exact ⟨rfl, rfl⟩

/-- cloneBytes: a copy in new memory; nil stays nil. -/
theorem clone6 {a : Option Addr} {n c : Nat} {ns : List Int} (w : World) (hs : ns.length ≤ 1048576) (h : Ns w (.slice a n c) ns) :
    Calls Try.prog 6 #[.slice a n c] w fun e w' => ∃ a', e = .returned (.slice a' n n) ∧ w'.ownsRow w.heap.size 5 1 (.slice a' n n) n (u8s ns) ∧ a'.isNone = a.isNone ∧ Below w.heap.size w w' := by
  obtain ⟨a1, n1, c1, hv, hn, hnil, hc, hf⟩ := h.form
  simp only [Value.slice.injEq] at hv
  obtain ⟨rfl, rfl, rfl⟩ := hv
  cases a with
  | none =>
    obtain ⟨rfl, rfl⟩ := hnil rfl
    have e : ns = [] := List.eq_nil_of_length_eq_zero hn.symm
    subst e
    exact (clone6_nil w).mono fun e w' ⟨he, hw⟩ => ⟨none, he, World.ownsRow_nil _ _ _ _, rfl, hw ▸ Below.refl _ _⟩
  | some x =>
    exact (clone6_some x n c ns w hn.symm (by omega) hf).mono fun e w' ⟨he, h1, h2⟩ => ⟨_, he, h1, rfl, h2⟩

end Go.Proofs.Qxb6601132a
