/-
  DERIVED. GIVEN WITH THE SEED: THE CARDS: each row of YthlmcnlkmgeohaaReflFmtRows.lean that lists a variable, with what it lists TIED to the program's text (the seventh form; the later family's looks); each row that meets fmt, with fmt's text TOLD by the authors' own Lean function (tested against real Go, not proved from fmt's source: count such statements apart). THE CARD IS WHAT COUNTS. Prove the row's statement (the work); the ties are given (YthlmcnlkmgeohaaReflFmtTie.lean); close each card by the builder's one call (the guide's Derived/Test/ToyasCard.lean, 'card_holds'). Laid BY PROGRAM, IN A SANDBOX (cutbox-door.mjs). By AI agents, Wed Nov 11 2026. No macro, syntax, notation, axiom, sorry.
-/
import Derived.Test.YthlmcnlkmgeohaaReflFmtRows
import GoSem.ClaimSeven
namespace Go.Proofs.YthlmcnlkmgeohaaReflFmt
namespace Rows

/-- THE TOLD CARD OF 'n003_39.FnMaybeCompatibleTable'. -/
def fnMaybeCompatibleTableCard : Claim7 := { stood := { row := fnMaybeCompatibleTableRow, standIns := [], harness := (true, "a5e575ed22c72de2e1a43faca135f11db0e56d029749df2b3ea5d352fdfb90d6"), looks := true }, told := true, goes := false }
def FnMaybeCompatibleTableToldSaid : Prop := Claim7.holds Tryr.pinned (.plain (OpenSpec.ofChange fnMaybeCompatibleTableSpec)) fnMaybeCompatibleTableCard
/-- ITS FALSE NEIGHBOUR. Refute it at one input. -/
def FnMaybeCompatibleTableToldWrongFalsely : Prop := Claim7.holds Tryr.pinned (.plain (OpenSpec.ofChange fnMaybeCompatibleTableWrong)) fnMaybeCompatibleTableCard

/-- THE TOLD CARD OF 'n003_39.FnMaybeCompatibleSymmetricMonotone'. -/
def fnMaybeCompatibleSymmetricMonotoneCard : Claim7 := { stood := { row := fnMaybeCompatibleSymmetricMonotoneRow, standIns := [], harness := (true, "a5e575ed22c72de2e1a43faca135f11db0e56d029749df2b3ea5d352fdfb90d6"), looks := true }, told := true, goes := false }
def FnMaybeCompatibleSymmetricMonotoneToldSaid : Prop := Claim7.holds Tryr.pinned (.plain (OpenSpec.ofChange fnMaybeCompatibleSymmetricMonotoneSpec)) fnMaybeCompatibleSymmetricMonotoneCard
/-- ITS FALSE NEIGHBOUR. Refute it at one input. -/
def FnMaybeCompatibleSymmetricMonotoneToldWrongFalsely : Prop := Claim7.holds Tryr.pinned (.plain (OpenSpec.ofChange fnMaybeCompatibleSymmetricMonotoneWrong)) fnMaybeCompatibleSymmetricMonotoneCard
end Rows
end Go.Proofs.YthlmcnlkmgeohaaReflFmt
