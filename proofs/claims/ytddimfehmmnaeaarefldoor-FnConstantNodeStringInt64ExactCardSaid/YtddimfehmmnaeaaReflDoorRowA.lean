/-
For every int64 n a ConstantNode holding n prints as the decimal of n. Conditions: the listed package-level variables read as the program's text lays them (the card ties them); the cut bears the words reflectrows, leanrows.
-/
import Derived.Test.YtddimfehmmnaeaaReflDoorWalk
import Derived.Test.YtddimfehmmnaeaaReflDoorFactsA
import Derived.Test.YtddimfehmmnaeaaReflDoorCards
import Derived.Test.YtddimfehmmnaeaaReflDoorTie
import Derived.Lib.LaidTab
import Derived.Lay
import Derived.OpenVars
import Derived.Stop.LaidErr
import Derived.SevenTiedAt
namespace Go.Proofs.YtddimfehmmnaeaaReflDoor.row1
open Go Go.Proofs Go.RowKit Go.ChangeShapes Go.WideShapes Go.ChangeAt
open Go.Proofs.YtddimfehmmnaeaaReflDoor.ext Go.Proofs.YtddimfehmmnaeaaReflDoor.walk
set_option maxRecDepth 100000
theorem own : ownKnob Tryr.prog.godebug = none := by kernel_rfl
theorem tab_of {W : World} (h : laidMet Tryr.prog Rows.fnConstantNodeStringInt64ExactRow.laid W) : Lib.TabIs Tryr.prog W "internal/strconv.uint64pow10" .u64 Lib.pow10Tab :=
  Lib.tabIs_of_head (g := 2) (t := 131) (e := 33) (n := 20) (by kernel_rfl) (by kernel_rfl) Tryr.underlying131 Tryr.underlying33 (by kernel_rfl) (by kernel_rfl) (show laidMet Tryr.prog (("internal/strconv.uint64pow10", Lib.tabData .u64 Lib.pow10Tab) :: _) W from h.tail.tail.tail)
theorem laidOut : laidOutB Tryr.prog = true := facts.closed3.1

theorem lifted (os : Os) (started : os.Started) (H : Type) (enc : TypeId × Value → H) :
    ReturnsInHanded {} Tryr.checked os 3 .any (fun w args => (Rows.fnConstantNodeStringInt64ExactSpec.pre enc Tryr.prog Tryr.f3 [] false w args ∧ laidMetH Tryr.prog Rows.fnConstantNodeStringInt64ExactRow.laid w) ∧ sizedMet enc Tryr.prog Tryr.f3 (OpenSpec.ofChange Rows.fnConstantNodeStringInt64ExactSpec) false w args)
      (Rows.fnConstantNodeStringInt64ExactSpec.post enc Tryr.prog Tryr.f3 false true false false) := by
  refine returnsInHanded_of_change_and (C := Tryr.checked) (X := fun w _ => laidMetH Tryr.prog Rows.fnConstantNodeStringInt64ExactRow.laid w) (fun _ _ _ hh h => h.of_heap hh) own started (by kernel_rfl) Tryr.func3
    (ChangeSpec.witness_shaped (enc := enc) (C := Tryr.checked) (os := os) (X := fun w _ => laidMetH Tryr.prog Rows.fnConstantNodeStringInt64ExactRow.laid w) false (World.laidAll Tryr.prog os Rows.fnConstantNodeStringInt64ExactRow.laid) #[.int .i64 0] 8 (World.laidAll_os _ _ _)
      (World.shaped_of_ZipB (by kernel_rfl) (by kernel_rfl)) (by kernel_rfl) (by kernel_rfl) (by kernel_rfl)
      (by rw [MakeChecks.laidMetH_plain _ _ _ (by kernel_rfl)]; exact laidMet_laidAll _ (by kernel_rfl) (by kernel_rfl))) ?_
  intro W base args ds gs before hval0 hW _ _ hL _
  have hval : ∀ (j : Nat) t v, Tryr.f3.params[j]? = some t → args[j]? = some v → Value.okWide Tryr.prog W .any base t v := hval0
  have hW' := hW
  obtain ⟨p, q, hA0, hV, rfl, _, _⟩ := hW
  have hA : DataW.TrodAll enc Tryr.prog W 0 (fun _ => true) true Tryr.f3.params.toList args.toList ds p := hA0
  rw [Tryr.params3] at hA hval
  obtain ⟨v0, d0, rfl, rfl, h0⟩ := trodAll_one hA
  obtain ⟨x, rfl, rfl, rfl, wx⟩ := open_int Tryr.underlying2 (hval 0 2 v0 rfl rfl) h0
  have hx : -9223372036854775808 ≤ x ∧ x ≤ 9223372036854775807 := by simpa [Lit.wf, IntKind.min, IntKind.max, IntKind.signed, IntKind.bits] using wx
  rw [MakeChecks.laidMetH_plain _ _ _ (by kernel_rfl)] at hL
  have hT := tab_of hL
  obtain ⟨g1, rfl⟩ : ∃ g1, gs = [g1] := by
    match gs, hV with
    | [g1], _ => exact ⟨g1, rfl⟩
    | [], h => exact h.elim
    | _ :: _ :: _, ⟨_, _, _, _, _, _, _, _, _, _, h, _⟩ => exact h.elim
  refine (law_walk ai (fun n w a b => itoa_all n w a b) x hx.1 hx.2 W (Lib.tabBelow_of_tabIs hT)).mono fun e W' ⟨he, hb⟩ => ?_
  subst he
  exact ⟨_, rfl, _, _, _, [], _, _, hW', trodAll_mk1 (shut_bool Tryr.underlying4 _), trodAll_mk1 (shut_int Tryr.underlying2 wx), hb.trodVars laidOut (by kernel_rfl) hV, hb.frame _, fun h => by cases h⟩

theorem said : Rows.FnConstantNodeStringInt64ExactSaid :=
  OpenClaim.holds_of_wide 3 Tryr.f3 rfl rfl rfl rfl rfl rfl rfl ⟨rfl, rfl, rfl, rfl, rfl⟩ rfl rfl rfl rfl rfl (by kernel_rfl) Tryr.func3 facts.joined
    (of_decide_eq_true (by kernel_rfl)) (by unfold Func.isWrapper; rw [if_neg (by decide +kernel)]; exact ⟨rfl, rfl⟩)
    (fun os started H enc _ => lifted os started H enc)
theorem plain (f : FuncId) (fn : Func) (hf : Tryr.pinned.checked.prog.funcNamed "github.com/expr-lang/expr/n003_62.FnConstantNodeStringInt64Exact" = some f) (hfn : Tryr.pinned.checked.prog.funcs[f]? = some fn) :
    true = Tryr.pinned.checked.prog.looks [] ∧ ∀ (j : Nat) t, fn.params[j]? = some t → Tryr.pinned.checked.prog.wantsStandIn t = false := by
  obtain rfl : f = 3 := Option.some.inj ((show Tryr.prog.funcNamed "github.com/expr-lang/expr/n003_62.FnConstantNodeStringInt64Exact" = some 3 by kernel_rfl).symm.trans hf) |>.symm
  obtain rfl : fn = Tryr.f3 := (Option.some.inj (Tryr.func3.symm.trans hfn)).symm
  refine ⟨by kernel_rfl, fun j t ht => ?_⟩
  rw [Tryr.params3] at ht
  obtain rfl : t = 2 := by simpa using Array.mem_of_getElem? ht
  exact (show Tryr.prog.wantsStandIn 2 = false by kernel_rfl)
theorem card : Rows.FnConstantNodeStringInt64ExactCardSaid :=
  Claim7.holds_tied_plain_at .later [] _ _ _ _ said (fun _ h => by cases h) (by kernel_rfl) (fun _ h => by cases h) fnConstantNodeStringInt64Exact_row_tie rfl ⟨rfl, rfl⟩ (by kernel_rfl) rfl plain (by kernel_rfl)
#print axioms card
end Go.Proofs.YtddimfehmmnaeaaReflDoor.row1
