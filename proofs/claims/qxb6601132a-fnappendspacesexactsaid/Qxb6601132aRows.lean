/-
  No cell of these rows narrows 'for every input' (looked for: loops, veiled, ifaces, maps, wideKeys, modest, calm, conditions, laid).
  DERIVED. THE GIVEN ROWS OF THIS SEAT. 2 by the template 'for every input the law returns true; each argument reads behind the call as it read before'; 0 by the template 'total and deterministic' (their statements: Qxb6601132aTotals.lean).
  GIVEN WITH THE SEED: the statements are not yours to turn. If you find one false, say at which input.
  Laid BY PROGRAM, IN A SANDBOX (cutbox-rows.mjs): the forced cells as the released guide's own fill.sh prints them over the translation 684f1a7d7f85d0f6… (all of the seat's roots in one cut). By AI agents, Wed Nov 11 2026. No macro, syntax, notation, axiom, sorry.
-/
import Derived.Test.Qxb6601132aChecked
import GoSem.Claim
import GoSem.ClaimJoined
import GoSem.ClaimMapViews
import Derived.JoinedTies
import Derived.KernelRfl
namespace Go.Proofs.Qxb6601132a
/- THE CELL 'sum', in the pinned program and in every row, IS THE sha256 OF THE DUMP (.gsa) THAT Qxb6601132aProg.lean LOADS. Nothing in Lean hashes anything: it is a label: what it is worth is what the hold of that sum in a sandbox is worth. -/
noncomputable def Try.pinned : Pinned := { name := "qxb6601132a", sum := "684f1a7d7f85d0f60865ca2a393682c954439a67b16b9d1f75dd047bf94da7b4", checked := Try.checked }
namespace Rows
def none {H : Type} : Left H := { results := [], args := [] }

/-- 'zzlaws_pkg_table_b1.FnAppendSpacesExact': WHATEVER THE INPUT: true; the input reads as it did. -/
def fnAppendSpacesExactSpec : ChangeSpec := { name := "fnAppendSpacesExact", fn := fun _ => fun
  | [d1, d2] => { results := [.lit (.bool true)], args := [d1, d2] }
  | _ => none }
def fnAppendSpacesExactRow : OpenClaim := { program := "qxb6601132a", sum := "684f1a7d7f85d0f60865ca2a393682c954439a67b16b9d1f75dd047bf94da7b4", func := "example.com/vestbook/vestbook/zzlaws_pkg_table_b1.FnAppendSpacesExact", spec := "fnAppendSpacesExact", apart := false }
def FnAppendSpacesExactSaid : Prop := fnAppendSpacesExactRow.holds Try.pinned (OpenSpec.ofChange fnAppendSpacesExactSpec)

/-- ITS FALSE NEIGHBOUR: 'it returns false'. Refute it at one input. -/
def fnAppendSpacesExactWrong : ChangeSpec := { name := "fnAppendSpacesExact", fn := fun _ => fun
  | [d1, d2] => { results := [.lit (.bool false)], args := [d1, d2] }
  | _ => none }
def FnAppendSpacesExactWrongFalsely : Prop := fnAppendSpacesExactRow.holds Try.pinned (OpenSpec.ofChange fnAppendSpacesExactWrong)

/-- 'zzlaws_pkg_table_b1.FnAppendSpacesAdditive': WHATEVER THE INPUT: true; the input reads as it did. -/
def fnAppendSpacesAdditiveSpec : ChangeSpec := { name := "fnAppendSpacesAdditive", fn := fun _ => fun
  | [d1, d2, d3] => { results := [.lit (.bool true)], args := [d1, d2, d3] }
  | _ => none }
def fnAppendSpacesAdditiveRow : OpenClaim := { program := "qxb6601132a", sum := "684f1a7d7f85d0f60865ca2a393682c954439a67b16b9d1f75dd047bf94da7b4", func := "example.com/vestbook/vestbook/zzlaws_pkg_table_b1.FnAppendSpacesAdditive", spec := "fnAppendSpacesAdditive", apart := false }
def FnAppendSpacesAdditiveSaid : Prop := fnAppendSpacesAdditiveRow.holds Try.pinned (OpenSpec.ofChange fnAppendSpacesAdditiveSpec)

/-- ITS FALSE NEIGHBOUR: 'it returns false'. Refute it at one input. -/
def fnAppendSpacesAdditiveWrong : ChangeSpec := { name := "fnAppendSpacesAdditive", fn := fun _ => fun
  | [d1, d2, d3] => { results := [.lit (.bool false)], args := [d1, d2, d3] }
  | _ => none }
def FnAppendSpacesAdditiveWrongFalsely : Prop := fnAppendSpacesAdditiveRow.holds Try.pinned (OpenSpec.ofChange fnAppendSpacesAdditiveWrong)

end Rows
end Go.Proofs.Qxb6601132a
