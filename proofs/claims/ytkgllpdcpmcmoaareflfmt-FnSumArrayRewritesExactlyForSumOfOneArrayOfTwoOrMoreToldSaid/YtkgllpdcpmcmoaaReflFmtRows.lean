/-
  No cell of these rows narrows 'for every input' (looked for: loops, veiled, ifaces, maps, wideKeys, modest, calm, conditions, laid).
  DERIVED. THE GIVEN ROWS OF THIS SEAT. 2 by the template 'for every input the law returns true; each argument reads behind the call as it read before'; 0 by the template 'total and deterministic' (their statements: YtkgllpdcpmcmoaaReflFmtTotals.lean).
  GIVEN WITH THE SEED: the statements are not yours to turn. If you find one false, say at which input.
  Laid BY PROGRAM, IN A SANDBOX (cutbox-rows.mjs): the forced cells as the released guide's own fill.sh prints them over the translation 7588e47bf56e602c… (all of the seat's roots in one cut). By AI agents, Wed Nov 11 2026. No macro, syntax, notation, axiom, sorry.
-/
import Derived.Test.YtkgllpdcpmcmoaaReflFmtChecked
import GoSem.Claim
import GoSem.ClaimJoined
import GoSem.ClaimMapViews
import Derived.JoinedTies
import Derived.KernelRfl
namespace Go.Proofs.YtkgllpdcpmcmoaaReflFmt
/- THE CELL 'sum', in the pinned program and in every row, IS THE sha256 OF THE DUMP (.gsa) THAT YtkgllpdcpmcmoaaReflFmtProg.lean LOADS. Nothing in Lean hashes anything: it is a label: what it is worth is what the hold of that sum in a sandbox is worth. -/
noncomputable def Tryr.pinned : Pinned := { name := "ytkgllpdcpmcmoaareflfmt", sum := "7588e47bf56e602cdd2c3eeb1916227b42d46c61d6f8aeb9308d21b901449d37", checked := Tryr.checked }
namespace Rows
def none {H : Type} : Left H := { results := [], args := [] }

/-- 'n003_58.FnSumArrayRewritesExactlyForSumOfOneArrayOfTwoOrMore': WHATEVER THE INPUT: true; the input reads as it did. -/
def fnSumArrayRewritesExactlyForSumOfOneArrayOfTwoOrMoreSpec : ChangeSpec := { name := "fnSumArrayRewritesExactlyForSumOfOneArrayOfTwoOrMore", fn := fun _ => fun
  | [d1, d2, d3] => { results := [.lit (.bool true)], args := [d1, d2, d3] }
  | _ => none }
def fnSumArrayRewritesExactlyForSumOfOneArrayOfTwoOrMoreRow : OpenClaim := { program := "ytkgllpdcpmcmoaareflfmt", sum := "7588e47bf56e602cdd2c3eeb1916227b42d46c61d6f8aeb9308d21b901449d37", func := "github.com/expr-lang/expr/n003_58.FnSumArrayRewritesExactlyForSumOfOneArrayOfTwoOrMore", spec := "fnSumArrayRewritesExactlyForSumOfOneArrayOfTwoOrMore", stops := ["fmt.errorf"], inPlace := ["reflect.TypeOf", "fmt.errorf"], unfollowed := true, recurses := true, make := .lifted ["reflectrows", "leanrows"], apart := false }
/-- NO THEOREM (fmt's text is open here; it may be false): for the released tool's asking of the row's closed facts alone. THE STATEMENT IS 'FnSumArrayRewritesExactlyForSumOfOneArrayOfTwoOrMoreToldSaid' (YtkgllpdcpmcmoaaReflFmtCards.lean). -/
def FnSumArrayRewritesExactlyForSumOfOneArrayOfTwoOrMoreFormAsk : Prop := fnSumArrayRewritesExactlyForSumOfOneArrayOfTwoOrMoreRow.holds Tryr.pinned (OpenSpec.ofChange fnSumArrayRewritesExactlyForSumOfOneArrayOfTwoOrMoreSpec)

/-- ITS FALSE NEIGHBOUR: 'it returns false'. Refute it at one input. -/
def fnSumArrayRewritesExactlyForSumOfOneArrayOfTwoOrMoreWrong : ChangeSpec := { name := "fnSumArrayRewritesExactlyForSumOfOneArrayOfTwoOrMore", fn := fun _ => fun
  | [d1, d2, d3] => { results := [.lit (.bool false)], args := [d1, d2, d3] }
  | _ => none }
def FnSumArrayRewritesExactlyForSumOfOneArrayOfTwoOrMoreWrongFormAsk : Prop := fnSumArrayRewritesExactlyForSumOfOneArrayOfTwoOrMoreRow.holds Tryr.pinned (OpenSpec.ofChange fnSumArrayRewritesExactlyForSumOfOneArrayOfTwoOrMoreWrong)

/-- 'n003_58.FnSumArrayRewritesIntoRightNestedSum': WHATEVER THE INPUT: true; the input reads as it did. -/
def fnSumArrayRewritesIntoRightNestedSumSpec : ChangeSpec := { name := "fnSumArrayRewritesIntoRightNestedSum", fn := fun _ => fun
  | [d1, d2] => { results := [.lit (.bool true)], args := [d1, d2] }
  | _ => none }
def fnSumArrayRewritesIntoRightNestedSumRow : OpenClaim := { program := "ytkgllpdcpmcmoaareflfmt", sum := "7588e47bf56e602cdd2c3eeb1916227b42d46c61d6f8aeb9308d21b901449d37", func := "github.com/expr-lang/expr/n003_58.FnSumArrayRewritesIntoRightNestedSum", spec := "fnSumArrayRewritesIntoRightNestedSum", stops := ["fmt.errorf"], inPlace := ["reflect.TypeOf", "fmt.errorf"], unfollowed := true, recurses := true, make := .lifted ["reflectrows", "leanrows"], apart := false }
/-- NO THEOREM (fmt's text is open here; it may be false): for the released tool's asking of the row's closed facts alone. THE STATEMENT IS 'FnSumArrayRewritesIntoRightNestedSumToldSaid' (YtkgllpdcpmcmoaaReflFmtCards.lean). -/
def FnSumArrayRewritesIntoRightNestedSumFormAsk : Prop := fnSumArrayRewritesIntoRightNestedSumRow.holds Tryr.pinned (OpenSpec.ofChange fnSumArrayRewritesIntoRightNestedSumSpec)

/-- ITS FALSE NEIGHBOUR: 'it returns false'. Refute it at one input. -/
def fnSumArrayRewritesIntoRightNestedSumWrong : ChangeSpec := { name := "fnSumArrayRewritesIntoRightNestedSum", fn := fun _ => fun
  | [d1, d2] => { results := [.lit (.bool false)], args := [d1, d2] }
  | _ => none }
def FnSumArrayRewritesIntoRightNestedSumWrongFormAsk : Prop := fnSumArrayRewritesIntoRightNestedSumRow.holds Tryr.pinned (OpenSpec.ofChange fnSumArrayRewritesIntoRightNestedSumWrong)

end Rows
end Go.Proofs.YtkgllpdcpmcmoaaReflFmt
