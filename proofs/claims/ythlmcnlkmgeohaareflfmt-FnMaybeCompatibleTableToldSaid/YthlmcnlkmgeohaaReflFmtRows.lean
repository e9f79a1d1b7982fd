/-
  No cell of these rows narrows 'for every input' (looked for: loops, veiled, ifaces, maps, wideKeys, modest, calm, conditions, laid).
  DERIVED. THE GIVEN ROWS OF THIS SEAT. 2 by the template 'for every input the law returns true; each argument reads behind the call as it read before'; 0 by the template 'total and deterministic' (their statements: YthlmcnlkmgeohaaReflFmtTotals.lean).
  GIVEN WITH THE SEED: the statements are not yours to turn. If you find one false, say at which input.
  Laid BY PROGRAM, IN A SANDBOX (cutbox-rows.mjs): the forced cells as the released guide's own fill.sh prints them over the translation e423f62cf5087896… (all of the seat's roots in one cut). By AI agents, Wed Nov 11 2026. No macro, syntax, notation, axiom, sorry.
-/
import Derived.Test.YthlmcnlkmgeohaaReflFmtChecked
import GoSem.Claim
import GoSem.ClaimJoined
import GoSem.ClaimMapViews
import Derived.JoinedTies
import Derived.KernelRfl
namespace Go.Proofs.YthlmcnlkmgeohaaReflFmt
/- THE CELL 'sum', in the pinned program and in every row, IS THE sha256 OF THE DUMP (.gsa) THAT YthlmcnlkmgeohaaReflFmtProg.lean LOADS. Nothing in Lean hashes anything: it is a label: what it is worth is what the hold of that sum in a sandbox is worth. -/
noncomputable def Tryr.pinned : Pinned := { name := "ythlmcnlkmgeohaareflfmt", sum := "e423f62cf50878969254e23d3f14f092e979b74f06aa43f182e7e86b6ee406c8", checked := Tryr.checked }
namespace Rows
def none {H : Type} : Left H := { results := [], args := [] }

/-- 'n003_39.FnMaybeCompatibleTable': WHATEVER THE INPUT: true; the input reads as it did. -/
def fnMaybeCompatibleTableSpec : ChangeSpec := { name := "fnMaybeCompatibleTable", fn := fun _ => fun
  | [d1, d2, d3] => { results := [.lit (.bool true)], args := [d1, d2, d3] }
  | _ => none }
def fnMaybeCompatibleTableRow : OpenClaim := { program := "ythlmcnlkmgeohaareflfmt", sum := "e423f62cf50878969254e23d3f14f092e979b74f06aa43f182e7e86b6ee406c8", func := "github.com/expr-lang/expr/n003_39.FnMaybeCompatibleTable", spec := "fnMaybeCompatibleTable", stops := ["fmt.Sprintf"], inPlace := ["reflect.TypeOf", "fmt.Sprintf"], unfollowed := true, recurses := true, make := .lifted ["reflectrows", "leanrows"], apart := false }
/-- NO THEOREM (fmt's text is open here; it may be false): for the released tool's asking of the row's closed facts alone. THE STATEMENT IS 'FnMaybeCompatibleTableToldSaid' (YthlmcnlkmgeohaaReflFmtCards.lean). -/
def FnMaybeCompatibleTableFormAsk : Prop := fnMaybeCompatibleTableRow.holds Tryr.pinned (OpenSpec.ofChange fnMaybeCompatibleTableSpec)

/-- ITS FALSE NEIGHBOUR: 'it returns false'. Refute it at one input. -/
def fnMaybeCompatibleTableWrong : ChangeSpec := { name := "fnMaybeCompatibleTable", fn := fun _ => fun
  | [d1, d2, d3] => { results := [.lit (.bool false)], args := [d1, d2, d3] }
  | _ => none }
def FnMaybeCompatibleTableWrongFormAsk : Prop := fnMaybeCompatibleTableRow.holds Tryr.pinned (OpenSpec.ofChange fnMaybeCompatibleTableWrong)

/-- 'n003_39.FnMaybeCompatibleSymmetricMonotone': WHATEVER THE INPUT: true; the input reads as it did. -/
def fnMaybeCompatibleSymmetricMonotoneSpec : ChangeSpec := { name := "fnMaybeCompatibleSymmetricMonotone", fn := fun _ => fun
  | [d1, d2, d3, d4] => { results := [.lit (.bool true)], args := [d1, d2, d3, d4] }
  | _ => none }
def fnMaybeCompatibleSymmetricMonotoneRow : OpenClaim := { program := "ythlmcnlkmgeohaareflfmt", sum := "e423f62cf50878969254e23d3f14f092e979b74f06aa43f182e7e86b6ee406c8", func := "github.com/expr-lang/expr/n003_39.FnMaybeCompatibleSymmetricMonotone", spec := "fnMaybeCompatibleSymmetricMonotone", stops := ["fmt.Sprintf"], inPlace := ["reflect.TypeOf", "fmt.Sprintf"], unfollowed := true, recurses := true, make := .lifted ["reflectrows", "leanrows"], apart := false }
/-- NO THEOREM (fmt's text is open here; it may be false): for the released tool's asking of the row's closed facts alone. THE STATEMENT IS 'FnMaybeCompatibleSymmetricMonotoneToldSaid' (YthlmcnlkmgeohaaReflFmtCards.lean). -/
def FnMaybeCompatibleSymmetricMonotoneFormAsk : Prop := fnMaybeCompatibleSymmetricMonotoneRow.holds Tryr.pinned (OpenSpec.ofChange fnMaybeCompatibleSymmetricMonotoneSpec)

/-- ITS FALSE NEIGHBOUR: 'it returns false'. Refute it at one input. -/
def fnMaybeCompatibleSymmetricMonotoneWrong : ChangeSpec := { name := "fnMaybeCompatibleSymmetricMonotone", fn := fun _ => fun
  | [d1, d2, d3, d4] => { results := [.lit (.bool false)], args := [d1, d2, d3, d4] }
  | _ => none }
def FnMaybeCompatibleSymmetricMonotoneWrongFormAsk : Prop := fnMaybeCompatibleSymmetricMonotoneRow.holds Tryr.pinned (OpenSpec.ofChange fnMaybeCompatibleSymmetricMonotoneWrong)

end Rows
end Go.Proofs.YthlmcnlkmgeohaaReflFmt
