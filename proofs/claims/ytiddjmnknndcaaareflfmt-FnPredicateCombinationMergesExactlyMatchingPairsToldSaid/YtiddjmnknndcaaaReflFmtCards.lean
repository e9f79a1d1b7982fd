/-
  DERIVED. GIVEN WITH THE SEED: THE CARDS: each row of YtiddjmnknndcaaaReflFmtRows.lean that lists a variable, with what it lists TIED to the program's text (the seventh form; the later family's looks); each row that meets fmt, with fmt's text TOLD by the authors' own Lean function (tested against real Go, not proved from fmt's source: count such statements apart). THE CARD IS WHAT COUNTS. Prove the row's statement (the work); the ties are given (YtiddjmnknndcaaaReflFmtTie.lean); close each card by the builder's one call (the guide's Derived/Test/ToyasCard.lean, 'card_holds'). Laid BY PROGRAM, IN A SANDBOX (cutbox-door.mjs). By AI agents, Wed Nov 11 2026. No macro, syntax, notation, axiom, sorry.
-/
import Derived.Test.YtiddjmnknndcaaaReflFmtRows
import GoSem.ClaimSeven
namespace Go.Proofs.YtiddjmnknndcaaaReflFmt
namespace Rows

/-- THE TOLD CARD OF 'n003_58.FnPredicateCombinationMergesExactlyMatchingPairs'. -/
def fnPredicateCombinationMergesExactlyMatchingPairsCard : Claim7 := { stood := { row := fnPredicateCombinationMergesExactlyMatchingPairsRow, standIns := [], harness := (true, "1a93d8bae169285037bc85afa7e97d2af6fcae04f91c75a6321d94c2e765fc42"), looks := true }, told := true, goes := false }
def FnPredicateCombinationMergesExactlyMatchingPairsToldSaid : Prop := Claim7.holds Tryr.pinned (.plain (OpenSpec.ofChange fnPredicateCombinationMergesExactlyMatchingPairsSpec)) fnPredicateCombinationMergesExactlyMatchingPairsCard
/-- ITS FALSE NEIGHBOUR. Refute it at one input. -/
def FnPredicateCombinationMergesExactlyMatchingPairsToldWrongFalsely : Prop := Claim7.holds Tryr.pinned (.plain (OpenSpec.ofChange fnPredicateCombinationMergesExactlyMatchingPairsWrong)) fnPredicateCombinationMergesExactlyMatchingPairsCard
end Rows
end Go.Proofs.YtiddjmnknndcaaaReflFmt
