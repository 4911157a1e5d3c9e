/-
  What the rows' listed variables give the walks; the start that fits: the heap that the door's own run leaves.
-/
import Derived.Test.Qxb6001768aDoorRows
import Derived.Test.Qxb6001768aDoorW3
import Derived.Lib.LaidTab
import Derived.Lib.ItoaNum
import Derived.Stop.LaidErr
import Derived.ProofKit
import Derived.LaidMore
import Derived.OpenShut
import Derived.ShutString
import Derived.ChangeOld
import Derived.SizedLaws
import Derived.Stop.Joined
import Derived.JoinedOf
namespace Go.Proofs.Qxb6001768aDoor
open Go.ChangeShapes Go.WideShapes Go.ChangeAt Go.RowKit
set_option linter.unusedVariables false

theorem own : ownKnob Tryd.prog.godebug = none := by kernel_rfl
theorem laidOut : laidOutB Tryd.prog = true := by kernel_rfl
theorem gES : Tryd.prog.globalNamed "strconv.ErrSyntax" = some 0 := by kernel_rfl
theorem gER : Tryd.prog.globalNamed "strconv.ErrRange" = some 1 := by kernel_rfl
theorem gPT : Tryd.prog.globalNamed "internal/strconv.uint64pow10" = some 2 := by kernel_rfl
theorem tES : (Tryd.prog.globals[0]?).map (·.type) = some 28 := by kernel_rfl
theorem tER : (Tryd.prog.globals[1]?).map (·.type) = some 28 := by kernel_rfl
theorem tPT : (Tryd.prog.globals[2]?).map (·.type) = some 60 := by kernel_rfl
theorem cells70 : Tryd.prog.cellsOf 70 = 1 := by kernel_rfl
theorem cells9 : Tryd.prog.cellsOf 9 = 1 := by kernel_rfl
theorem cells37 : Tryd.prog.cellsOf 37 = 1 := by kernel_rfl
theorem cells60 : Tryd.prog.cellsOf 60 = 20 := by kernel_rfl
theorem star : "*" ++ "errors.errorString" = "*errors.errorString" := by decide
theorem row68 (u : TypeId) (h : Tryd.prog.typeName? 3 u = some "*errors.errorString") : u = 68 :=
  typeName_ptr_named (nm := "errors.errorString") (by rw [star]; kernel_rfl) (by kernel_rfl) (by decide) u (by rw [star]; exact h)

/-- The five variables, as both rows list them. -/
def laid5 : List (String × DataW Unit) := [("math/bits.deBruijn32tab", Rows.laid_math_bits_deBruijn32tab), ("math/bits.deBruijn64tab", Rows.laid_math_bits_deBruijn64tab), ("internal/strconv.uint64pow10", Rows.laid_internal_strconv_uint64pow10), ("strconv.ErrRange", Rows.laid_strconv_ErrRange), ("strconv.ErrSyntax", Rows.laid_strconv_ErrSyntax)]

theorem tab_is : (Rows.laid_internal_strconv_uint64pow10 : DataW Unit) = Lib.tabData .u64 Lib.pow10Tab := by rfl

theorem of_laid {W : World} (h : laidMetH Tryd.prog laid5 W) : (∃ p, W.var? Tryd.prog "strconv.ErrSyntax" = some #[.iface 68 p]) ∧ (∃ p, W.var? Tryd.prog "strconv.ErrRange" = some #[.iface 68 p]) ∧ Lib.TabIs Tryd.prog W "internal/strconv.uint64pow10" .u64 Lib.pow10Tab := by
  rw [MakeChecks.laidMetH_plain _ _ _ (by kernel_rfl)] at h
  have h3 := h.tail.tail
  have h4 := h3.tail
  have h5 := h4.tail
  obtain ⟨a0, s0, hv0, -, -, -⟩ := laid_sentinel h5 gES tES Tryd.underlying28 row68 Tryd.underlying68 Tryd.underlying70 rfl rfl Tryd.underlying9 cells70 cells9
  obtain ⟨a1, s1, hv1, -, -, -⟩ := laid_sentinel h4 gER tER Tryd.underlying28 row68 Tryd.underlying68 Tryd.underlying70 rfl rfl Tryd.underlying9 cells70 cells9
  rw [tab_is] at h3
  exact ⟨⟨_, hv0⟩, ⟨_, hv1⟩, Lib.tabIs_of_head gPT tPT Tryd.underlying60 Tryd.underlying37 cells37 cells60 h3⟩

/-- The door's own heap meets the condition. -/
theorem door_met (os : Os) (args : Array Value) : laidMetH Tryd.prog laid5 ((World.doorLaid Tryd.prog 62 os).forCall (fun _ _ => 0) ⟨#[], args, []⟩).memory :=
  laidMetH_of_parts3 (fuel := 8) (laidMet_of_run' 8 (by kernel_rfl) (by kernel_rfl)) (by kernel_rfl) (by kernel_rfl)

end Go.Proofs.Qxb6001768aDoor
