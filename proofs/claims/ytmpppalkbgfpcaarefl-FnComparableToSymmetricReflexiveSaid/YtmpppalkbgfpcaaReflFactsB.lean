/-
The closed facts of the row of FnComparableToSymmetricReflexive, each by the kernel. No condition.
-/
import Derived.Test.YtmpppalkbgfpcaaReflFactsA
import Derived.JoinedOf
import Derived.ClosedOfChecked
namespace Go.Proofs.YtmpppalkbgfpcaaRefl.facts6
open Go Go.Proofs Go.Proofs.YtmpppalkbgfpcaaRefl.facts
set_option maxRecDepth 100000
set_option maxHeartbeats 4000000 in
theorem joined : joinedFacts Tryr.prog 4 Tryr.f4 Rows.fnComparableToSymmetricReflexiveSpec Rows.fnComparableToSymmetricReflexiveRow = true := by
  simp only [joinedFacts, Bool.and_eq_true]
  repeat' apply And.intro
  all_goals first | (with_reducible exact closed3.1) | (with_reducible exact closed3.2.1) | (with_reducible rw [closed3.2.2]; exact rfl) | (as_aux_lemma => kernel_rfl)
end Go.Proofs.YtmpppalkbgfpcaaRefl.facts6
