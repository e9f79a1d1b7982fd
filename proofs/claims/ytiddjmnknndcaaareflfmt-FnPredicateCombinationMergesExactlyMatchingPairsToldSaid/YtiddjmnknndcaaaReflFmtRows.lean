/-
  No cell of these rows narrows 'for every input' (looked for: loops, veiled, ifaces, maps, wideKeys, modest, calm, conditions, laid).
  DERIVED. THE GIVEN ROWS OF THIS SEAT. 1 by the template 'for every input the law returns true; each argument reads behind the call as it read before'; 0 by the template 'total and deterministic' (their statements: YtiddjmnknndcaaaReflFmtTotals.lean).
  GIVEN WITH THE SEED: the statements are not yours to turn. If you find one false, say at which input.
  Laid BY PROGRAM, IN A SANDBOX (cutbox-rows.mjs): the forced cells as the released guide's own fill.sh prints them over the translation 34b10774a36ab410… (all of the seat's roots in one cut). By AI agents, Wed Nov 11 2026. No macro, syntax, notation, axiom, sorry.
-/
import Derived.Test.YtiddjmnknndcaaaReflFmtChecked
import GoSem.Claim
import GoSem.ClaimJoined
import GoSem.ClaimMapViews
import Derived.JoinedTies
import Derived.KernelRfl
namespace Go.Proofs.YtiddjmnknndcaaaReflFmt
/- THE CELL 'sum', in the pinned program and in every row, IS THE sha256 OF THE DUMP (.gsa) THAT YtiddjmnknndcaaaReflFmtProg.lean LOADS. Nothing in Lean hashes anything: it is a label: what it is worth is what the hold of that sum in a sandbox is worth. -/
noncomputable def Tryr.pinned : Pinned := { name := "ytiddjmnknndcaaareflfmt", sum := "34b10774a36ab4102a1d6594d1551c7978eeb4fb578d53773b51fbb169c9fb8c", checked := Tryr.checked }
namespace Rows
def none {H : Type} : Left H := { results := [], args := [] }

/-- 'n003_58.FnPredicateCombinationMergesExactlyMatchingPairs': WHATEVER THE INPUT: true; the input reads as it did. -/
def fnPredicateCombinationMergesExactlyMatchingPairsSpec : ChangeSpec := { name := "fnPredicateCombinationMergesExactlyMatchingPairs", fn := fun _ => fun
  | [d1, d2, d3, d4, d5, d6, d7] => { results := [.lit (.bool true)], args := [d1, d2, d3, d4, d5, d6, d7] }
  | _ => none }
def fnPredicateCombinationMergesExactlyMatchingPairsRow : OpenClaim := { program := "ytiddjmnknndcaaareflfmt", sum := "34b10774a36ab4102a1d6594d1551c7978eeb4fb578d53773b51fbb169c9fb8c", func := "github.com/expr-lang/expr/n003_58.FnPredicateCombinationMergesExactlyMatchingPairs", spec := "fnPredicateCombinationMergesExactlyMatchingPairs", stops := ["fmt.Sprintf, its operands' methods called"], inPlace := ["reflect.TypeOf"], unfollowed := true, recurses := true, make := .lifted ["reflectrows", "leanrows"], apart := false }
/-- NO THEOREM (fmt's text is open here; it may be false): for the released tool's asking of the row's closed facts alone. THE STATEMENT IS 'FnPredicateCombinationMergesExactlyMatchingPairsToldSaid' (YtiddjmnknndcaaaReflFmtCards.lean). -/
def FnPredicateCombinationMergesExactlyMatchingPairsFormAsk : Prop := fnPredicateCombinationMergesExactlyMatchingPairsRow.holds Tryr.pinned (OpenSpec.ofChange fnPredicateCombinationMergesExactlyMatchingPairsSpec)

/-- ITS FALSE NEIGHBOUR: 'it returns false'. Refute it at one input. -/
def fnPredicateCombinationMergesExactlyMatchingPairsWrong : ChangeSpec := { name := "fnPredicateCombinationMergesExactlyMatchingPairs", fn := fun _ => fun
  | [d1, d2, d3, d4, d5, d6, d7] => { results := [.lit (.bool false)], args := [d1, d2, d3, d4, d5, d6, d7] }
  | _ => none }
def FnPredicateCombinationMergesExactlyMatchingPairsWrongFormAsk : Prop := fnPredicateCombinationMergesExactlyMatchingPairsRow.holds Tryr.pinned (OpenSpec.ofChange fnPredicateCombinationMergesExactlyMatchingPairsWrong)

end Rows
end Go.Proofs.YtiddjmnknndcaaaReflFmt
