/-
  DERIVED. GIVEN WITH THE SEED: THE CARDS: each row of YtddimfehmmnaeaaReflFmtRows.lean that lists a variable, with what it lists TIED to the program's text (the seventh form; the later family's looks); each row that meets fmt, with fmt's text TOLD by the authors' own Lean function (tested against real Go, not proved from fmt's source: count such statements apart). THE CARD IS WHAT COUNTS. Prove the row's statement (the work); the ties are given (YtddimfehmmnaeaaReflFmtTie.lean); close each card by the builder's one call (the guide's Derived/Test/ToyasCard.lean, 'card_holds'). Laid BY PROGRAM, IN A SANDBOX (cutbox-door.mjs). By AI agents, Wed Nov 11 2026. No macro, syntax, notation, axiom, sorry.
-/
import Derived.Test.YtddimfehmmnaeaaReflFmtRows
import GoSem.ClaimSeven
namespace Go.Proofs.YtddimfehmmnaeaaReflFmt
namespace Rows

/-- THE TOLD AND TIED CARD OF 'n003_62.FnBoolNodeAgreesWithConstantNode'. -/
def fnBoolNodeAgreesWithConstantNodeCard : Claim7 := { stood := { row := fnBoolNodeAgreesWithConstantNodeRow, standIns := [], harness := (true, "0485de541a4b44e2f9814feafba78ef35423137b905c31f1d58105e0da3cb809"), looks := true }, told := true, laidByText := true, laidKinds := [.data, .data, .data, .data, .data, .data, .pinned, .pinned, .pinned], laidTests := true, laidLooks := .later, goes := false }
def FnBoolNodeAgreesWithConstantNodeToldSaid : Prop := Claim7.holds Tryr.pinned (.plain (OpenSpec.ofChange fnBoolNodeAgreesWithConstantNodeSpec)) fnBoolNodeAgreesWithConstantNodeCard
/-- ITS FALSE NEIGHBOUR. Refute it at one input. -/
def FnBoolNodeAgreesWithConstantNodeToldWrongFalsely : Prop := Claim7.holds Tryr.pinned (.plain (OpenSpec.ofChange fnBoolNodeAgreesWithConstantNodeWrong)) fnBoolNodeAgreesWithConstantNodeCard
end Rows
end Go.Proofs.YtddimfehmmnaeaaReflFmt
