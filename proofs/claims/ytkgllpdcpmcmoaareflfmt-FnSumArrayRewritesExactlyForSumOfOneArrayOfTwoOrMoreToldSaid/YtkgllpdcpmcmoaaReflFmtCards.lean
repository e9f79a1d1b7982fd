/-
  DERIVED. GIVEN WITH THE SEED: THE CARDS: each row of YtkgllpdcpmcmoaaReflFmtRows.lean that lists a variable, with what it lists TIED to the program's text (the seventh form; the later family's looks); each row that meets fmt, with fmt's text TOLD by the authors' own Lean function (tested against real Go, not proved from fmt's source: count such statements apart). THE CARD IS WHAT COUNTS. Prove the row's statement (the work); the ties are given (YtkgllpdcpmcmoaaReflFmtTie.lean); close each card by the builder's one call (the guide's Derived/Test/ToyasCard.lean, 'card_holds'). Laid BY PROGRAM, IN A SANDBOX (cutbox-door.mjs). By AI agents, Wed Nov 11 2026. No macro, syntax, notation, axiom, sorry.
-/
import Derived.Test.YtkgllpdcpmcmoaaReflFmtRows
import GoSem.ClaimSeven
namespace Go.Proofs.YtkgllpdcpmcmoaaReflFmt
namespace Rows

/-- THE TOLD CARD OF 'n003_58.FnSumArrayRewritesExactlyForSumOfOneArrayOfTwoOrMore'. -/
def fnSumArrayRewritesExactlyForSumOfOneArrayOfTwoOrMoreCard : Claim7 := { stood := { row := fnSumArrayRewritesExactlyForSumOfOneArrayOfTwoOrMoreRow, standIns := [], harness := (true, "9a97b23d722703300b009ed8c1c79b994095012c9060db0a3065ee0ba62bae71"), looks := true }, told := true, goes := false }
def FnSumArrayRewritesExactlyForSumOfOneArrayOfTwoOrMoreToldSaid : Prop := Claim7.holds Tryr.pinned (.plain (OpenSpec.ofChange fnSumArrayRewritesExactlyForSumOfOneArrayOfTwoOrMoreSpec)) fnSumArrayRewritesExactlyForSumOfOneArrayOfTwoOrMoreCard
/-- ITS FALSE NEIGHBOUR. Refute it at one input. -/
def FnSumArrayRewritesExactlyForSumOfOneArrayOfTwoOrMoreToldWrongFalsely : Prop := Claim7.holds Tryr.pinned (.plain (OpenSpec.ofChange fnSumArrayRewritesExactlyForSumOfOneArrayOfTwoOrMoreWrong)) fnSumArrayRewritesExactlyForSumOfOneArrayOfTwoOrMoreCard

/-- THE TOLD CARD OF 'n003_58.FnSumArrayRewritesIntoRightNestedSum'. -/
def fnSumArrayRewritesIntoRightNestedSumCard : Claim7 := { stood := { row := fnSumArrayRewritesIntoRightNestedSumRow, standIns := [], harness := (true, "9a97b23d722703300b009ed8c1c79b994095012c9060db0a3065ee0ba62bae71"), looks := true }, told := true, goes := false }
def FnSumArrayRewritesIntoRightNestedSumToldSaid : Prop := Claim7.holds Tryr.pinned (.plain (OpenSpec.ofChange fnSumArrayRewritesIntoRightNestedSumSpec)) fnSumArrayRewritesIntoRightNestedSumCard
/-- ITS FALSE NEIGHBOUR. Refute it at one input. -/
def FnSumArrayRewritesIntoRightNestedSumToldWrongFalsely : Prop := Claim7.holds Tryr.pinned (.plain (OpenSpec.ofChange fnSumArrayRewritesIntoRightNestedSumWrong)) fnSumArrayRewritesIntoRightNestedSumCard
end Rows
end Go.Proofs.YtkgllpdcpmcmoaaReflFmt
