/-
  Words of this seat's walks: what a slice of bytes reads as ('Bs'), carried over worlds by 'Below'.
-/
import Derived.Test.Qxb6001768aDoorProg
import Derived.Test.Qxb6001768aDoorPlain
import Derived.WalkKit
import Derived.WalkSpells
import Derived.WalkLawsBesides
import Derived.BigQuiet
import Derived.BigCall
import Derived.Deep.QuietTactic
import Derived.Deep.LoopGhost
import Derived.Deep.DeepCutAuto
import Derived.Laws.IdiomStrings
import Derived.Lib.Slices
namespace Go.Proofs.Qxb6001768aDoor
open Go.RowKit
set_option linter.unusedVariables false

theorem hide {p : Prop} (h : p) : Hid p := h

def byt (l : List UInt8) (i : Nat) : Int := ((l.getD i 0).toNat : Int)
theorem byt_nat (l : List UInt8) (i : Nat) : ∃ q : Nat, byt l i = (q : Int) ∧ q = (l.getD i 0).toNat ∧ q < 256 := ⟨_, rfl, rfl, UInt8.toNat_lt _⟩

/-- The slice value v reads as the bytes l in w. -/
def Bs (w : World) (v : Value) (l : List UInt8) : Prop :=
  ∃ a cap, v = .slice a l.length cap ∧ l.length ≤ cap ∧ cap ≤ maxLen ∧ (a = none → cap = 0) ∧
    (0 < l.length → ∃ b off, a = some ⟨b, off, none⟩ ∧ b < w.heap.size ∧ ∀ i, i < l.length → w.cell? ⟨b, off + i, none⟩ = some (.int .u8 (byt l i)))

theorem Bs.form {w : World} {v : Value} {l : List UInt8} (h : Bs w v l) : ∃ a n c, v = .slice a n c ∧ n = l.length ∧ (a = none → n = 0 ∧ c = 0) ∧ n ≤ maxLen ∧
    (0 < n → ∃ b off, a = some ⟨b, off, none⟩ ∧ b < w.heap.size ∧ ∀ i, i < n → w.cell? ⟨b, off + i, none⟩ = some (.int .u8 (byt l i))) := by
  obtain ⟨a, cap, rfl, h1, h2, h3, h5⟩ := h
  exact ⟨a, l.length, cap, rfl, rfl, fun e => by have := h3 e; exact ⟨by omega, this⟩, Nat.le_trans h1 h2, h5⟩

theorem Bs.below {w w' : World} {v : Value} {l : List UInt8} (h : Bs w v l) (hb : Below w.heap.size w w') : Bs w' v l := by
  obtain ⟨a, cap, rfl, h1, h2, h3, h5⟩ := h
  refine ⟨a, cap, rfl, h1, h2, h3, fun hn => ?_⟩
  obtain ⟨b, off, rfl, hlt, hc⟩ := h5 hn
  exact ⟨b, off, rfl, Nat.lt_of_lt_of_le hlt hb.size, fun j hj => by rw [hb.cell (p := ⟨b, off + j, none⟩) hlt]; exact hc j hj⟩

theorem Bs.nil (w : World) : Bs w (.slice none 0 0) [] := ⟨none, 0, rfl, Nat.le_refl _, Nat.zero_le _, fun _ => rfl, fun h => absurd h (by simp)⟩

def bcs (l : List UInt8) : List Value := l.map (fun b => Value.int .u8 (b.toNat : Int))
theorem bcs_at (l : List UInt8) (i : Nat) (h : i < l.length) : (bcs l)[i]? = some (.int .u8 (byt l i)) := by
  simp [bcs, byt, List.getD, h]
theorem bcs_length (l : List UInt8) : (bcs l).length = l.length := by simp [bcs]

theorem own_form {w : World} {base e size n : Nat} {v : Value} {xs : List Value} (h : w.ownsRow base e size v n xs) :
    ∃ a c, v = .slice a n c ∧ n ≤ c ∧ c ≤ maxLen ∧ (a = none → n = 0 ∧ c = 0) ∧ (0 < n → ∃ g, a = some ⟨g, 0, none⟩ ∧ base ≤ g ∧ g < w.heap.size) := by
  obtain ⟨h1, h2⟩ := h
  rcases h2 with ⟨rfl, rfl⟩ | ⟨g, cap, cur, rfl, hb, hg, hnc, hcm, hcs, htake⟩
  · exact ⟨none, 0, rfl, Nat.le_refl _, Nat.zero_le _, fun _ => ⟨rfl, rfl⟩, fun h => absurd h (by omega)⟩
  · exact ⟨_, cap, rfl, hnc, hcm, (fun h => by cases h), fun _ => ⟨g, rfl, hb, (Array.getElem?_eq_some_iff.1 hg).1⟩⟩

theorem Bs.ofOwn {w : World} {base : Nat} {v : Value} {l : List UInt8} (h : w.ownsRow base 5 1 v l.length (bcs l)) : Bs w v l := by
  obtain ⟨a, c, rfl, h1, h2, h3, h4⟩ := own_form h
  refine ⟨a, c, rfl, h1, h2, fun e => (h3 e).2, fun hn => ?_⟩
  obtain ⟨g, rfl, _, hg⟩ := h4 hn
  exact ⟨g, 0, rfl, hg, fun i hi => by rw [Nat.zero_add, h.cellAt i (by omega)]; exact bcs_at l i hi⟩

/-- string(v). -/
theorem Bs.text {w : World} {v : Value} {l : List UInt8} (h : Bs w v l) : (convert 22 9 v).run Tryd.prog w = .ok (.string ⟨l.toArray⟩) w := by
  obtain ⟨a, cap, rfl, h1, h2, h3, h5⟩ := h
  cases a with
  | none =>
    have := h3 rfl
    have hl : l = [] := List.eq_nil_of_length_eq_zero (by omega)
    subst hl
    subst this
    rw [List.length_nil, run_convert_bytes_string (P := Tryd.prog) w 22 9 5 none 0 0 Tryd.underlying22 Tryd.underlying5 Tryd.underlying9]
    rfl
  | some x =>
    refine run_convert_bytes_back (P := Tryd.prog) w 22 9 5 x cap l Tryd.underlying22 Tryd.underlying5 Tryd.underlying9 (fun j hj => ?_)
    obtain ⟨b, off, hx, hb, hc⟩ := h5 (by omega)
    obtain rfl := Option.some.inj hx
    rw [Addr.add_lit, hc j hj]
    simp [byt, List.getD, hj]

end Go.Proofs.Qxb6001768aDoor
