/-
The told row: for every bool b the law returns true. Conditions: fmt's text is told at "%t"; the listed package-level variables read as laid.
-/
import Derived.Test.YtddimfehmmnaeaaReflFmtWalkA
import Derived.Test.YtddimfehmmnaeaaReflFmtCards
import Derived.Test.YtddimfehmmnaeaaReflFmtTie
import Derived.ProofKit
import Derived.Stop.JoinedAt
import Derived.Stop.Texts
import Derived.Stop.JoinedTold
import Derived.Stop.FmtTextVerbs
import Derived.Stop.FmtTextKit
import Derived.Lay
import Derived.OpenVars
import Derived.SevenTiedAt
import Derived.SizedLaws
import Derived.ClosedOfChecked
namespace Go.Proofs.YtddimfehmmnaeaaReflFmt.row2
open Go Go.Proofs Go.RowKit Go.ChangeShapes Go.WideShapes Go.ChangeAt Go.Kit
open Go.Extern.Stop Go.Stop Go.Extern
open Go.Proofs.YtddimfehmmnaeaaReflFmt.ext Go.Proofs.YtddimfehmmnaeaaReflFmt.walk
set_option maxRecDepth 100000
theorem own : ownKnob Tryr.prog.godebug = none := by kernel_rfl
theorem t_parse : (FmtText.parse [37, 116]).map FmtText.glue = some [.verb {} 116] := by rfl
theorem t_text (b : Bool) : FmtText.text "fmt.Sprintf" (reading b) = some (boolText b) := by
  have hb := FmtText.operand_bool_at (sh := shape4) (n := [4, 0, 0, 0, 0, 0, 0, 0, 98, 111, 111, 108]) (name := [98, 111, 111, 108]) rfl rfl b
  rw [reading, FmtText.text_sprintf_glued t_parse (FmtText.operands_cons hb FmtText.operands_nil)]
  simp [FmtText.render, FmtText.printArg_t, boolText]
theorem t_told (F : Interp) (b : Bool) : FmtStop.textOf (F.told "fmt.Sprintf" (reading b) 0) = ⟨(boolText b).toArray⟩ := by
  have h := told_string F (t_text b) (by cases b <;> decide)
  have h2 := textOf_list F.told "fmt.Sprintf" (reading b)
  rw [h] at h2
  rw [← h2]
theorem hty : Tryr.checked.prog.types = Tryr.checked.src.types := by kernel_rfl
theorem rest : (Tryr.prog.globals.all (fun g => decide (g.type < Tryr.prog.types.size)) && Tryr.prog.funcs.all (fun f => f.params.all fun t => decide (t < Tryr.prog.types.size))) = true := by kernel_rfl
theorem keys : ClosedOfChecked.keysListB Tryr.prog = true := by kernel_rfl
theorem closed3 : laidOutB Tryr.prog = true ∧ mapsRowed Tryr.prog = true ∧ Tryr.prog.plainKeys = true := ClosedOfChecked.closed_of_checked Tryr.checked hty rest keys
theorem laidOut : laidOutB Tryr.prog = true := closed3.1
/-- a witness for a row over stops, at a world of one's own making whose shape is shown -/
theorem witness_of {H : Type} {enc : TypeId × Value → H} {C : Checked} {os : Os} {f : FuncId} {fn : Func} {s : OpenSpec} {conds : List PathCond} {apart : Bool} {laid : List (String × DataW Unit)} (modest : Bool) (w0 : World) (args : Array Value) (hos : w0.os = os)
    (hsh : (w0.forCall (fun _ _ => 0) ⟨#[], args, []⟩).Shaped C.prog)
    (hok : Input.okWideB C.prog (w0.forCall (fun _ _ => 0) ⟨#[], args, []⟩) f ⟨#[], args, []⟩ = true)
    (hrow : s.preRow enc C.prog fn conds apart laid (w0.forCall (fun _ _ => 0) ⟨#[], args, []⟩).memory args) (F : Stop.Interp) :
    ∃ (w : World) (tape : Tape) (i : Input), w.os = os ∧ (w.forCall tape i).Shaped C.prog ∧ i.vars = [] ∧ Input.okWide C.prog (w.forCall tape i) .any w.heap.size f i ∧
      s.preRow enc C.prog fn conds apart laid (w.forCall tape i).memory i.args ∧ ({ modest := modest } : Assume).holds C.prog (lone (Frame.enter C.prog f i.args .normal) [] (w.forCall tape i)) ∧ F.answers tape :=
  ⟨w0, F.over fun _ _ => 0, ⟨#[], args, []⟩, hos, hsh, (Input.okWide_of_okWideB (base := 0) hok).1, (Input.okWide_of_okWideB hok).2, hrow, by
    simp only [Assume.holds]
    exact ⟨by simp, by simp, fun _ => F.over_modest Modest.zero, by simp, by simp⟩, F.over_answers _⟩
theorem w_ok (os : Os) : Input.okWideB Tryr.prog ((World.laidAll Tryr.prog os Rows.fnBoolNodeAgreesWithConstantNodeRow.laid).forCall (fun _ _ => 0) ⟨#[], #[.bool false], []⟩) 3 ⟨#[], #[.bool false], []⟩ = true := by kernel_rfl
theorem w_sh (os : Os) : ((World.laidAll Tryr.prog os Rows.fnBoolNodeAgreesWithConstantNodeRow.laid).forCall (fun _ _ => 0) ⟨#[], #[.bool false], []⟩).Shaped Tryr.prog := World.shaped_of_ZipB (by kernel_rfl) (by kernel_rfl)
theorem w_laid (os : Os) : laidMetH Tryr.prog Rows.fnBoolNodeAgreesWithConstantNodeRow.laid ((World.laidAll Tryr.prog os Rows.fnBoolNodeAgreesWithConstantNodeRow.laid).forCall (fun _ _ => 0) ⟨#[], #[.bool false], []⟩).memory := by
  rw [MakeChecks.laidMetH_plain _ _ _ (by kernel_rfl)]
  exact laidMet_laidAll _ (by kernel_rfl) (by kernel_rfl)
theorem w_pre {H : Type} (enc : TypeId × Value → H) (os : Os) : (OpenSpec.ofChange Rows.fnBoolNodeAgreesWithConstantNodeSpec).bare.preB enc Tryr.prog Tryr.f3 [] false ((World.laidAll Tryr.prog os Rows.fnBoolNodeAgreesWithConstantNodeRow.laid).forCall (fun _ _ => 0) ⟨#[], #[.bool false], []⟩).memory #[.bool false] 8 = true := by kernel_rfl
theorem w_sized {H : Type} (enc : TypeId × Value → H) (os : Os) : (OpenSpec.ofChange Rows.fnBoolNodeAgreesWithConstantNodeSpec).bare.sizedB enc Tryr.prog Tryr.f3 false ((World.laidAll Tryr.prog os Rows.fnBoolNodeAgreesWithConstantNodeRow.laid).forCall (fun _ _ => 0) ⟨#[], #[.bool false], []⟩).memory #[.bool false] 8 = true := by kernel_rfl
theorem w_row {H : Type} (enc : TypeId × Value → H) (os : Os) : (OpenSpec.ofChange Rows.fnBoolNodeAgreesWithConstantNodeSpec).preRow enc Tryr.prog Tryr.f3 [] false Rows.fnBoolNodeAgreesWithConstantNodeRow.laid ((World.laidAll Tryr.prog os Rows.fnBoolNodeAgreesWithConstantNodeRow.laid).forCall (fun _ _ => 0) ⟨#[], #[.bool false], []⟩).memory #[.bool false] :=
  OpenSpec.preRow_of_B rfl 8 (w_pre enc os) (w_sized enc os) (w_laid os)
theorem lifted (os : Os) (started : os.Started) (H : Type) (enc : TypeId × Value → H) :
    ReturnsInTold none {} Tryr.checked os 3 .any Input.okWide ((OpenSpec.ofChange Rows.fnBoolNodeAgreesWithConstantNodeSpec).preRow enc Tryr.prog Tryr.f3 [] false Rows.fnBoolNodeAgreesWithConstantNodeRow.laid)
      (fun F => ((OpenSpec.ofChange Rows.fnBoolNodeAgreesWithConstantNodeSpec).at F).post enc Tryr.prog Tryr.f3 false true false false) (aloneAtReturn Tryr.prog) nothingAlways := by
  refine returnsInTold_of_row (C := Tryr.checked) (s := OpenSpec.ofChange Rows.fnBoolNodeAgreesWithConstantNodeSpec) (by kernel_rfl) own started (by kernel_rfl) Tryr.func3 (witness_of (C := Tryr.checked) false _ _ (World.laidAll_os _ _ _) (w_sh os) (w_ok os) (w_row enc os)) ?_
  intro F W base args ds gs before _ hF hval0 hW _ _ _ hL _
  have hval : ∀ (j : Nat) t v, Tryr.f3.params[j]? = some t → args[j]? = some v → Value.okWide Tryr.prog W .any base t v := hval0
  have hW' := hW
  obtain ⟨p, q, hA0, hV, rfl, _, _⟩ := hW
  have hA : DataW.TrodAll enc Tryr.prog W 0 (fun _ => true) true Tryr.f3.params.toList args.toList ds p := hA0
  rw [Tryr.params3] at hA hval
  obtain ⟨v0, d0, rfl, rfl, h0⟩ := trodAll_one hA
  obtain ⟨b, rfl, rfl, rfl⟩ := open_bool Tryr.underlying4 (hval 0 4 v0 rfl rfl) h0
  obtain ⟨g1, rfl⟩ : ∃ g1, gs = [g1] := by
    match gs, hV with
    | [g1], _ => exact ⟨g1, rfl⟩
    | [], h => exact h.elim
    | _ :: _ :: _, ⟨_, _, _, _, _, _, _, _, _, _, h, _⟩ => exact h.elim
  refine (law_walk F.told b W hF (t_told F b)).mono fun e W' ⟨he, hb⟩ => ?_
  subst he
  exact ⟨_, rfl, _, _, _, [], _, _, hW', trodAll_mk1 (shut_bool Tryr.underlying4 _), trodAll_mk1 (shut_bool Tryr.underlying4 _), hb.trodVars laidOut (by kernel_rfl) hV, hb.frame _, fun h => by cases h⟩
end Go.Proofs.YtddimfehmmnaeaaReflFmt.row2
