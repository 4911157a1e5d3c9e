/-
  DERIVED. GIVEN WITH THE SEED: THE CARDS: each row of Qxb6001768aDoorRows.lean that lists a variable, with what it lists TIED to the program's text (the seventh form; the later family's looks); each row that meets fmt, with fmt's text TOLD by the authors' own Lean function (tested against real Go, not proved from fmt's source: count such statements apart). THE CARD IS WHAT COUNTS. Prove the row's statement (the work); the ties are given (Qxb6001768aDoorTie.lean); close each card by the builder's one call (the guide's Derived/Test/ToyasCard.lean, 'card_holds'). Laid BY PROGRAM, IN A SANDBOX (cutbox-door.mjs). By AI agents, Wed Nov 11 2026. No macro, syntax, notation, axiom, sorry.
-/
import Derived.Test.Qxb6001768aDoorRows
import GoSem.ClaimSeven
namespace Go.Proofs.Qxb6001768aDoor
namespace Rows

/-- THE TIED CARD OF 'zzlaws_internal_resp_e1.FnHeaderLenAcceptsExactlySignedDecimalsInRange'. -/
def fnHeaderLenAcceptsExactlySignedDecimalsInRangeCard : Claim7 := { stood := { row := fnHeaderLenAcceptsExactlySignedDecimalsInRangeRow, standIns := [], harness := (true, "6be4f62f73600148123edf48df1db9322f8a9b8e64d945ee1b589164d24af1bd"), looks := true }, kinds := [], alts := [], laidByText := true, laidKinds := [.data, .data, .data, .sentinel, .sentinel], laidTests := true, laidLooks := .later }
def FnHeaderLenAcceptsExactlySignedDecimalsInRangeCardSaid : Prop := Claim7.holds Tryd.pinned (.plain (OpenSpec.ofChange fnHeaderLenAcceptsExactlySignedDecimalsInRangeSpec)) fnHeaderLenAcceptsExactlySignedDecimalsInRangeCard

/-- THE TIED CARD OF 'zzlaws_internal_resp_e1.FnHeaderLenReadsBackArrayLen'. -/
def fnHeaderLenReadsBackArrayLenCard : Claim7 := { stood := { row := fnHeaderLenReadsBackArrayLenRow, standIns := [], harness := (true, "6be4f62f73600148123edf48df1db9322f8a9b8e64d945ee1b589164d24af1bd"), looks := true }, kinds := [], alts := [], laidByText := true, laidKinds := [.data, .data, .data, .sentinel, .sentinel], laidTests := true, laidLooks := .later }
def FnHeaderLenReadsBackArrayLenCardSaid : Prop := Claim7.holds Tryd.pinned (.plain (OpenSpec.ofChange fnHeaderLenReadsBackArrayLenSpec)) fnHeaderLenReadsBackArrayLenCard
end Rows
end Go.Proofs.Qxb6001768aDoor
