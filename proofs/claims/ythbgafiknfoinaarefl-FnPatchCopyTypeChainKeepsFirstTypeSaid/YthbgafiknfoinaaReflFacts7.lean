/-
The closed facts of the row of FnPatchCopyTypeChainKeepsFirstType, each by the kernel. No condition.
-/
import Derived.Test.YthbgafiknfoinaaReflRows
import Derived.JoinedOf
import Derived.ClosedOfChecked
namespace Go.Proofs.YthbgafiknfoinaaRefl.facts
open Go Go.Proofs
set_option maxRecDepth 100000
theorem hty : Tryr.checked.prog.types = Tryr.checked.src.types := by kernel_rfl
theorem rest : (Tryr.prog.globals.all (fun g => decide (g.type < Tryr.prog.types.size)) && Tryr.prog.funcs.all (fun f => f.params.all fun t => decide (t < Tryr.prog.types.size))) = true := by kernel_rfl
theorem keys : ClosedOfChecked.keysListB Tryr.prog = true := by kernel_rfl
theorem closed3 : laidOutB Tryr.prog = true ∧ mapsRowed Tryr.prog = true ∧ Tryr.prog.plainKeys = true := ClosedOfChecked.closed_of_checked Tryr.checked hty rest keys
set_option maxHeartbeats 4000000 in
theorem joined : joinedFacts Tryr.prog 3 Tryr.f3 Rows.fnPatchCopyTypeChainKeepsFirstTypeSpec Rows.fnPatchCopyTypeChainKeepsFirstTypeRow = true := by
  simp only [joinedFacts, Bool.and_eq_true]
  repeat' apply And.intro
  all_goals first | (with_reducible exact closed3.1) | (with_reducible exact closed3.2.1) | (with_reducible rw [closed3.2.2]; exact rfl) | (as_aux_lemma => kernel_rfl)
end Go.Proofs.YthbgafiknfoinaaRefl.facts
