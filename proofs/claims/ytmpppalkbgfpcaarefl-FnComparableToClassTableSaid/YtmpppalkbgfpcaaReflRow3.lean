/-
For any two of the seventeen natures ComparableTo, with a fresh cache, answers true just where one is wild or both fall in one class. No condition; the cut bears the words reflectrows, leanrows.
-/
import Derived.Test.YtmpppalkbgfpcaaReflLaw3
import Derived.Test.YtmpppalkbgfpcaaReflFactsA
namespace Go.Proofs.YtmpppalkbgfpcaaRefl.row3
open Go Go.Proofs Go.RowKit Go.ChangeShapes Go.WideShapes Go.ChangeAt
open Go.Proofs.YtmpppalkbgfpcaaRefl.nat
set_option maxRecDepth 100000
theorem own : ownKnob Tryr.prog.godebug = none := by kernel_rfl
theorem laidOut : laidOutB Tryr.prog = true := facts.closed3.1
theorem lifted (os : Os) (started : os.Started) (H : Type) (enc : TypeId × Value → H) :
    ReturnsInHanded {} Tryr.checked os 3 .any (Rows.fnComparableToClassTableSpec.pre6 enc Tryr.prog Tryr.f3 Rows.fnComparableToClassTableRow.domain false) (Rows.fnComparableToClassTableSpec.post enc Tryr.prog Tryr.f3 false true false false) := by
  refine returnsInHanded_of_change (C := Tryr.checked) own started (by kernel_rfl) Tryr.func3
    (ChangeSpec.witness6 (enc := enc) (C := Tryr.checked) false ⟨#[], #[.int .u8 0, .int .u8 0], []⟩ 8 (by kernel_rfl) (by kernel_rfl) (by kernel_rfl) (by kernel_rfl)) ?_
  intro W base args ds gs before hval0 hW hcnd _
  have hval : ∀ (j : Nat) t v, Tryr.f3.params[j]? = some t → args[j]? = some v → Value.okWide Tryr.prog W .any base t v := hval0
  have hW' := hW
  obtain ⟨p, q, hA0, hV, rfl, _, _⟩ := hW
  have hA : DataW.TrodAll enc Tryr.prog W 0 (fun _ => true) true Tryr.f3.params.toList args.toList ds p := hA0
  rw [Tryr.params3] at hA hval
  obtain ⟨v0, v1, d0, d1, p0, p1, rfl, rfl, rfl, h0, h1⟩ := trodAll_two hA
  obtain ⟨a, rfl, rfl, rfl, wa⟩ := open_int Tryr.underlying5 (hval 0 5 v0 rfl rfl) h0
  obtain ⟨b, rfl, rfl, rfl, wb⟩ := open_int Tryr.underlying5 (hval 1 5 v1 rfl rfl) h1
  obtain ⟨rfl, rfl⟩ := trodVars_none hV
  have ha : 0 ≤ a ∧ a ≤ 255 := by simpa [Lit.wf, IntKind.min, IntKind.max, IntKind.signed, IntKind.bits] using wa
  have hb : 0 ≤ b ∧ b ≤ 255 := by simpa [Lit.wf, IntKind.min, IntKind.max, IntKind.signed, IntKind.bits] using wb
  refine (law3 a b ha hb W).mono fun e W' ⟨he, hb⟩ => ?_
  subst he
  exact ⟨_, rfl, _, _, _, [], _, _, hW', trodAll_mk1 (shut_bool Tryr.underlying4 _), trodAll_mk2 (shut_int Tryr.underlying5 wa) (shut_int Tryr.underlying5 wb), rfl, hb.frame _, fun h => by cases h⟩
theorem holds : Rows.FnComparableToClassTableSaid :=
  OpenClaim.holds_of_wide 3 Tryr.f3 rfl rfl rfl rfl rfl rfl rfl ⟨rfl, rfl, rfl, rfl, rfl⟩ rfl rfl rfl rfl rfl (by kernel_rfl) Tryr.func3 facts.joined
    (of_decide_eq_true (by kernel_rfl)) (by unfold Func.isWrapper; rw [if_neg (by decide +kernel)]; exact ⟨rfl, rfl⟩)
    (fun os started H enc _ => lifted os started H enc)
#print axioms holds
end Go.Proofs.YtmpppalkbgfpcaaRefl.row3
