/-
  DERIVED. GIVEN WITH THE SEED: THE CARDS: each row of YtddimfehmmnaeaaReflDoorRows.lean that lists a variable, with what it lists TIED to the program's text (the seventh form; the later family's looks); each row that meets fmt, with fmt's text TOLD by the authors' own Lean function (tested against real Go, not proved from fmt's source: count such statements apart). THE CARD IS WHAT COUNTS. Prove the row's statement (the work); the ties are given (YtddimfehmmnaeaaReflDoorTie.lean); close each card by the builder's one call (the guide's Derived/Test/ToyasCard.lean, 'card_holds'). Laid BY PROGRAM, IN A SANDBOX (cutbox-door.mjs). By AI agents, Wed Nov 11 2026. No macro, syntax, notation, axiom, sorry.
-/
import Derived.Test.YtddimfehmmnaeaaReflDoorRows
import GoSem.ClaimSeven
namespace Go.Proofs.YtddimfehmmnaeaaReflDoor
namespace Rows

/-- THE TIED CARD OF 'n003_62.FnConstantNodeStringInt64Exact'. -/
def fnConstantNodeStringInt64ExactCard : Claim7 := { stood := { row := fnConstantNodeStringInt64ExactRow, standIns := [], harness := (true, "dc5e045b54794ffe0c37117309d3c20c50b44fe4d36f37889c75fae0a57ac0b7"), looks := true }, kinds := [], alts := [], laidByText := true, laidKinds := [.data, .data, .data, .data, .data, .data, .pinned, .pinned, .pinned], laidTests := true, laidLooks := .later }
def FnConstantNodeStringInt64ExactCardSaid : Prop := Claim7.holds Tryr.pinned (.plain (OpenSpec.ofChange fnConstantNodeStringInt64ExactSpec)) fnConstantNodeStringInt64ExactCard

/-- THE TIED CARD OF 'n003_62.FnConstantNodeStringInt64SliceExact'. -/
def fnConstantNodeStringInt64SliceExactCard : Claim7 := { stood := { row := fnConstantNodeStringInt64SliceExactRow, standIns := [], harness := (true, "dc5e045b54794ffe0c37117309d3c20c50b44fe4d36f37889c75fae0a57ac0b7"), looks := true }, kinds := [], alts := [], laidByText := true, laidKinds := [.data, .data, .data, .data, .data, .data, .pinned, .pinned, .pinned], laidTests := true, laidLooks := .later }
def FnConstantNodeStringInt64SliceExactCardSaid : Prop := Claim7.holds Tryr.pinned (.plain (OpenSpec.ofChange fnConstantNodeStringInt64SliceExactSpec)) fnConstantNodeStringInt64SliceExactCard

/-- THE SECOND FORM's CARD OF 'n003_62.FnConstantNodeStringInt64Exact'. -/
def fnConstantNodeStringInt64ExactUptoCard : Claim7 := { stood := { row := fnConstantNodeStringInt64ExactUptoRow, standIns := [], harness := (true, "dc5e045b54794ffe0c37117309d3c20c50b44fe4d36f37889c75fae0a57ac0b7"), looks := true }, kinds := [], alts := [], laidByText := true, laidKinds := [.data, .data, .data, .data, .data, .data, .pinned, .pinned, .pinned], laidTests := true, laidLooks := .later }
def FnConstantNodeStringInt64ExactUptoCardSaid : Prop := Claim7.holds Tryr.pinned (.plain (OpenSpec.upto fnConstantNodeStringInt64ExactSpec)) fnConstantNodeStringInt64ExactUptoCard

/-- THE SECOND FORM's CARD OF 'n003_62.FnConstantNodeStringInt64SliceExact'. -/
def fnConstantNodeStringInt64SliceExactUptoCard : Claim7 := { stood := { row := fnConstantNodeStringInt64SliceExactUptoRow, standIns := [], harness := (true, "dc5e045b54794ffe0c37117309d3c20c50b44fe4d36f37889c75fae0a57ac0b7"), looks := true }, kinds := [], alts := [], laidByText := true, laidKinds := [.data, .data, .data, .data, .data, .data, .pinned, .pinned, .pinned], laidTests := true, laidLooks := .later }
def FnConstantNodeStringInt64SliceExactUptoCardSaid : Prop := Claim7.holds Tryr.pinned (.plain (OpenSpec.upto fnConstantNodeStringInt64SliceExactSpec)) fnConstantNodeStringInt64SliceExactUptoCard
end Rows
end Go.Proofs.YtddimfehmmnaeaaReflDoor
