/-
The closed facts of the row of FnConstantNodeStringInt64SliceExact, each by the kernel. No condition.
-/
import Derived.Test.YtddimfehmmnaeaaReflDoorFactsA
import Derived.JoinedOf
import Derived.ClosedOfChecked
namespace Go.Proofs.YtddimfehmmnaeaaReflDoor.factsB
open Go Go.Proofs
set_option maxRecDepth 100000
set_option maxHeartbeats 4000000 in
theorem joined : joinedFacts Tryr.prog 4 Tryr.f4 Rows.fnConstantNodeStringInt64SliceExactSpec Rows.fnConstantNodeStringInt64SliceExactRow = true := by
  simp only [joinedFacts, Bool.and_eq_true]
  repeat' apply And.intro
  all_goals first | (with_reducible exact facts.closed3.1) | (with_reducible exact facts.closed3.2.1) | (with_reducible rw [facts.closed3.2.2]; exact rfl) | (as_aux_lemma => kernel_rfl)
end Go.Proofs.YtddimfehmmnaeaaReflDoor.factsB
