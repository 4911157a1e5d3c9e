/-
  findWord (17), findZZ (18): binary search.
-/
import Derived.Test.Qxb6600021aMerge
namespace Go.Proofs.Qxb6600021a
open Go.RowKit
set_option linter.unusedVariables false

set_option maxHeartbeats 400000 in
set_option maxRecDepth 100000 in
theorem find17_pos (b off n c : Nat) (L : List (Int × Int)) (x : Int) (w : World) (hL : L.length = n) (hn : n ≤ 1048576) (hs : Inc L) (hb : b < w.heap.size)
    (hc : ∀ i, i < n → w.cell? ⟨b, off + i * 2, none⟩ = some (.int .i64 (ix L i))) (hd : ∀ i, i < n → w.cell? ⟨b, off + i * 2 + 1, none⟩ = some (.int .u64 (bt L i))) :
    Calls Try.prog 17 #[.slice (some ⟨b, off, none⟩) n c, .int .i64 x] w fun e w' => e = .returned (.tuple #[.int .u64 (fnd L x).1, .bool (fnd L x).2]) ∧ Below w.heap.size w w' := by
  have HS : Hid (Inc L) := hs
  have HL : Hid (L.length = n) := hL
  clear hs hL
  go_enter Try.func17, Try.ntmps17
  go_wp2
  go_loopw [6, 7] (fun sl sh wr => ∃ l h : Nat, l ≤ h ∧ h ≤ n ∧ sl = .int .i64 l ∧ sh = .int .i64 h ∧ Below w.heap.size w wr ∧ (∀ i, i < l → ix L i ≠ x) ∧ ∀ i, h ≤ i → i < n → ix L i ≠ x) (fun sl sh _ => (intOf sh).toNat - (intOf sl).toNat)
  case atStart => exact ⟨0, n, by omega, by omega, rfl, rfl, Below.refl _ _, fun i hi => by omega, fun i h1 h2 => by omega⟩
  case round =>
    obtain ⟨l, h, hlh, hhn, rfl, rfl, hbel, hlo, hhi⟩ := hrel
    have HLo : Hid (∀ i, i < l → ix L i ≠ x) := hlo
    have HHi : Hid (∀ i, h ≤ i → i < n → ix L i ≠ x) := hhi
    clear hlo hhi
    by_cases hlt : l < h
    · have ca := (hbel.cell (p := ⟨b, off + (l + (h - l) / 2) * 2, none⟩) (by exact hb)).trans (hc (l + (h - l) / 2) (by omega))
      have da := (hbel.cell (p := ⟨b, off + (l + (h - l) / 2) * 2 + 1, none⟩) (by exact hb)).trans (hd (l + (h - l) / 2) (by omega))
      have hmid : l + (h - l) / 2 < n := by omega
      clear hc hd
      by_cases h1 : ix L (l + (h - l) / 2) = x
      · have t1 : (ix L (l + (h - l) / 2) == x) = true := beq_iff_eq.2 h1
        have H1 : Hid (ix L (l + (h - l) / 2) = x) := h1
        clear h1
        go_wp2
        go_ret2
        exact ⟨by rw [fnd_at HS.out (by rw [HL.out]; exact hmid) H1.out]; rfl, hbel⟩
      · have t1 : (ix L (l + (h - l) / 2) == x) = false := beq_eq_false_iff_ne.2 h1
        by_cases h2 : ix L (l + (h - l) / 2) < x
        · go_wp2
          go_roundw
          case rel =>
            refine ⟨l + (h - l) / 2 + 1, h, by omega, by omega, by go_num, rfl, hbel, fun i hi => ?_, HHi.out⟩
            by_cases e : i = l + (h - l) / 2
            · rw [e]; exact h1
            · have := HS.out i (l + (h - l) / 2) (by omega) (by rw [HL.out]; exact hmid); omega
          case measure => simp [intOf]; omega
        · go_wp2
          go_roundw
          case rel =>
            refine ⟨l, l + (h - l) / 2, by omega, by omega, rfl, by go_num, hbel, HLo.out, fun i h3 h4 => ?_⟩
            by_cases e : i = l + (h - l) / 2
            · rw [e]; exact h1
            · have := HS.out (l + (h - l) / 2) i (by omega) (by rw [HL.out]; exact h4); omega
          case measure => simp [intOf]; omega
    · go_wp2
      go_ret2
      exact ⟨by rw [fnd_none (fun i hi => by rw [HL.out] at hi; by_cases e : i < l; exact HLo.out i e; exact HHi.out i (by omega) hi)]; rfl, hbel⟩

set_option maxHeartbeats 400000 in
theorem find17_zero (a : Option Addr) (c : Nat) (x : Int) (w : World) :
    Calls Try.prog 17 #[.slice a 0 c, .int .i64 x] w fun e w' => e = .returned (.tuple #[.int .u64 0, .bool false]) ∧ Below w.heap.size w w' := by
  go_enter Try.func17, Try.ntmps17
  go_wp2
  go_loopw [6, 7] (fun sl sh wr => sl = .int .i64 0 ∧ sh = .int .i64 0 ∧ wr = w) (fun _ _ _ => 0)
  case atStart => exact ⟨rfl, rfl, rfl⟩
  case round =>
    obtain ⟨rfl, rfl, rfl⟩ := hrel
    go_wp2
    go_ret2
    exact ⟨rfl, Below.refl _ _⟩

theorem find17 {v : Value} {L : List (Int × Int)} (x : Int) (w : World) (hn : L.length ≤ 1048576) (hs : Inc L) (h : Prs w v L) :
    Calls Try.prog 17 #[v, .int .i64 x] w fun e w' => e = .returned (.tuple #[.int .u64 (fnd L x).1, .bool (fnd L x).2]) ∧ Below w.heap.size w w' := by
  rcases h.cases with ⟨rfl, rfl⟩ | ⟨y, cap, rfl, _, rfl⟩ | ⟨b, off, cap, hn', rfl, h1, h2, hb, hc, hd⟩
  · exact find17_zero none 0 x w
  · exact find17_zero (some y) cap x w
  · exact find17_pos b off L.length cap L x w rfl hn hs hb hc hd

set_option maxHeartbeats 400000 in
set_option maxRecDepth 100000 in
theorem find18_pos (b off n c : Nat) (L : List (Int × Int)) (x : Int) (w : World) (hL : L.length = n) (hn : n ≤ 1048576) (hs : Inc L) (hb : b < w.heap.size)
    (hc : ∀ i, i < n → w.cell? ⟨b, off + i * 2, none⟩ = some (.int .i64 (ix L i))) (hd : ∀ i, i < n → w.cell? ⟨b, off + i * 2 + 1, none⟩ = some (.int .u64 (bt L i))) :
    Calls Try.prog 18 #[.slice (some ⟨b, off, none⟩) n c, .int .i64 x] w fun e w' => e = .returned (.tuple #[.int .u64 (fnd L x).1, .bool (fnd L x).2]) ∧ Below w.heap.size w w' := by
  have HS : Hid (Inc L) := hs
  have HL : Hid (L.length = n) := hL
  clear hs hL
  go_enter Try.func18, Try.ntmps18
  go_wp2
  go_loopw [6, 7] (fun sl sh wr => ∃ l h : Nat, l ≤ h ∧ h ≤ n ∧ sl = .int .i64 l ∧ sh = .int .i64 h ∧ Below w.heap.size w wr ∧ (∀ i, i < l → ix L i ≠ x) ∧ ∀ i, h ≤ i → i < n → ix L i ≠ x) (fun sl sh _ => (intOf sh).toNat - (intOf sl).toNat)
  case atStart => exact ⟨0, n, by omega, by omega, rfl, rfl, Below.refl _ _, fun i hi => by omega, fun i h1 h2 => by omega⟩
  case round =>
    obtain ⟨l, h, hlh, hhn, rfl, rfl, hbel, hlo, hhi⟩ := hrel
    have HLo : Hid (∀ i, i < l → ix L i ≠ x) := hlo
    have HHi : Hid (∀ i, h ≤ i → i < n → ix L i ≠ x) := hhi
    clear hlo hhi
    by_cases hlt : l < h
    · have ca := (hbel.cell (p := ⟨b, off + (l + (h - l) / 2) * 2, none⟩) (by exact hb)).trans (hc (l + (h - l) / 2) (by omega))
      have da := (hbel.cell (p := ⟨b, off + (l + (h - l) / 2) * 2 + 1, none⟩) (by exact hb)).trans (hd (l + (h - l) / 2) (by omega))
      have hmid : l + (h - l) / 2 < n := by omega
      clear hc hd
      by_cases h1 : ix L (l + (h - l) / 2) = x
      · have t1 : (ix L (l + (h - l) / 2) == x) = true := beq_iff_eq.2 h1
        have H1 : Hid (ix L (l + (h - l) / 2) = x) := h1
        clear h1
        go_wp2
        go_ret2
        exact ⟨by rw [fnd_at HS.out (by rw [HL.out]; exact hmid) H1.out]; rfl, hbel⟩
      · have t1 : (ix L (l + (h - l) / 2) == x) = false := beq_eq_false_iff_ne.2 h1
        by_cases h2 : ix L (l + (h - l) / 2) < x
        · go_wp2
          go_roundw
          case rel =>
            refine ⟨l + (h - l) / 2 + 1, h, by omega, by omega, by go_num, rfl, hbel, fun i hi => ?_, HHi.out⟩
            by_cases e : i = l + (h - l) / 2
            · rw [e]; exact h1
            · have := HS.out i (l + (h - l) / 2) (by omega) (by rw [HL.out]; exact hmid); omega
          case measure => simp [intOf]; omega
        · go_wp2
          go_roundw
          case rel =>
            refine ⟨l, l + (h - l) / 2, by omega, by omega, rfl, by go_num, hbel, HLo.out, fun i h3 h4 => ?_⟩
            by_cases e : i = l + (h - l) / 2
            · rw [e]; exact h1
            · have := HS.out (l + (h - l) / 2) i (by omega) (by rw [HL.out]; exact h4); omega
          case measure => simp [intOf]; omega
    · go_wp2
      go_ret2
      exact ⟨by rw [fnd_none (fun i hi => by rw [HL.out] at hi; by_cases e : i < l; exact HLo.out i e; exact HHi.out i (by omega) hi)]; rfl, hbel⟩

set_option maxHeartbeats 400000 in
theorem find18_zero (a : Option Addr) (c : Nat) (x : Int) (w : World) :
    Calls Try.prog 18 #[.slice a 0 c, .int .i64 x] w fun e w' => e = .returned (.tuple #[.int .u64 0, .bool false]) ∧ Below w.heap.size w w' := by
  go_enter Try.func18, Try.ntmps18
  go_wp2
  go_loopw [6, 7] (fun sl sh wr => sl = .int .i64 0 ∧ sh = .int .i64 0 ∧ wr = w) (fun _ _ _ => 0)
  case atStart => exact ⟨rfl, rfl, rfl⟩
  case round =>
    obtain ⟨rfl, rfl, rfl⟩ := hrel
    go_wp2
    go_ret2
    exact ⟨rfl, Below.refl _ _⟩

theorem find18 {v : Value} {L : List (Int × Int)} (x : Int) (w : World) (hn : L.length ≤ 1048576) (hs : Inc L) (h : Prs w v L) :
    Calls Try.prog 18 #[v, .int .i64 x] w fun e w' => e = .returned (.tuple #[.int .u64 (fnd L x).1, .bool (fnd L x).2]) ∧ Below w.heap.size w w' := by
  rcases h.cases with ⟨rfl, rfl⟩ | ⟨y, cap, rfl, _, rfl⟩ | ⟨b, off, cap, hn', rfl, h1, h2, hb, hc, hd⟩
  · exact find18_zero none 0 x w
  · exact find18_zero (some y) cap x w
  · exact find18_pos b off L.length cap L x w rfl hn hs hb hc hd

end Go.Proofs.Qxb6600021a
