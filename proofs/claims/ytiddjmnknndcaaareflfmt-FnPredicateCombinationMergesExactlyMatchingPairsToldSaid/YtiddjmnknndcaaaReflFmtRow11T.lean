/-
The told row: predicateCombination merges a pair of predicates exactly where it should. Condition: the text of fmt's Sprintf is told (it is never asked).
-/
import Derived.Test.YtiddjmnknndcaaaReflFmtLaw11
import Derived.Test.YtiddjmnknndcaaaReflFmtCards
import Derived.ProofKit
import Derived.Stop.JoinedAt
import Derived.Stop.JoinedTold
import Derived.Lay
import Derived.OpenVars
import Derived.SevenToldRow
import Derived.SevenTiedAt
import Derived.SizedLaws
import Derived.ClosedOfChecked
import Derived.ChangeMaps5
namespace Go.Proofs.YtiddjmnknndcaaaReflFmt.row11
open Go Go.Proofs Go.RowKit Go.ChangeShapes Go.WideShapes Go.ChangeAt Go.Kit Go.ChangeMaps
open Go.Extern.Stop Go.Stop Go.Extern
open Go.Proofs.YtiddjmnknndcaaaReflFmt.opt
set_option maxRecDepth 100000
theorem own : ownKnob Tryr.prog.godebug = none := by kernel_rfl
theorem hty : Tryr.checked.prog.types = Tryr.checked.src.types := by kernel_rfl
theorem rest : (Tryr.prog.globals.all (fun g => decide (g.type < Tryr.prog.types.size)) && Tryr.prog.funcs.all (fun f => f.params.all fun t => decide (t < Tryr.prog.types.size))) = true := by kernel_rfl
theorem keys : ClosedOfChecked.keysListB Tryr.prog = true := by kernel_rfl
theorem closed3 : laidOutB Tryr.prog = true ∧ mapsRowed Tryr.prog = true ∧ Tryr.prog.plainKeys = true := ClosedOfChecked.closed_of_checked Tryr.checked hty rest keys
theorem laidOut : laidOutB Tryr.prog = true := closed3.1
/-- a witness for a row over stops, at a world of one's own making whose shape is shown -/
theorem witness_of {H : Type} {enc : TypeId × Value → H} {C : Checked} {os : Os} {f : FuncId} {fn : Func} {s : OpenSpec} {conds : List PathCond} {apart : Bool} {laid : List (String × DataW Unit)} (modest : Bool) (w0 : World) (args : Array Value) (hos : w0.os = os)
    (hsh : (w0.forCall (fun _ _ => 0) ⟨#[], args, []⟩).Shaped C.prog)
    (hok : Input.okWideB C.prog (w0.forCall (fun _ _ => 0) ⟨#[], args, []⟩) f ⟨#[], args, []⟩ = true)
    (hrow : s.preRow enc C.prog fn conds apart laid (w0.forCall (fun _ _ => 0) ⟨#[], args, []⟩).memory args) (F : Stop.Interp) :
    ∃ (w : World) (tape : Tape) (i : Input), w.os = os ∧ (w.forCall tape i).Shaped C.prog ∧ i.vars = [] ∧ Input.okWide C.prog (w.forCall tape i) .any w.heap.size f i ∧
      s.preRow enc C.prog fn conds apart laid (w.forCall tape i).memory i.args ∧ ({ modest := modest } : Assume).holds C.prog (lone (Frame.enter C.prog f i.args .normal) [] (w.forCall tape i)) ∧ F.answers tape :=
  ⟨w0, F.over fun _ _ => 0, ⟨#[], args, []⟩, hos, hsh, (Input.okWide_of_okWideB (base := 0) hok).1, (Input.okWide_of_okWideB hok).2, hrow, by
    simp only [Assume.holds]
    exact ⟨by simp, by simp, fun _ => F.over_modest Modest.zero, by simp, by simp⟩, F.over_answers _⟩
section
variable {H : Type} {enc : TypeId × Value → H} {P : Program} {w : World} {base : Nat} {spare : Nat → Bool} {held : Bool}
theorem trodAll_seven {t0 t1 t2 t3 t4 t5 t6 : TypeId} {args : Array Value} {ds : List (DataW H)} {ps : List MemPlace} (h : DataW.TrodAll enc P w base spare held [t0, t1, t2, t3, t4, t5, t6] args.toList ds ps) :
    ∃ v0 v1 v2 v3 v4 v5 v6 d0 d1 d2 d3 d4 d5 d6 p0 p1 p2 p3 p4 p5 p6, args = #[v0, v1, v2, v3, v4, v5, v6] ∧ ds = [d0, d1, d2, d3, d4, d5, d6] ∧ ps = p0 ++ (p1 ++ (p2 ++ (p3 ++ (p4 ++ (p5 ++ p6))))) ∧
      DataW.Trod enc P w base spare held t0 v0 d0 p0 ∧ DataW.Trod enc P w base spare held t1 v1 d1 p1 ∧ DataW.Trod enc P w base spare held t2 v2 d2 p2 ∧ DataW.Trod enc P w base spare held t3 v3 d3 p3 ∧ DataW.Trod enc P w base spare held t4 v4 d4 p4 ∧ DataW.Trod enc P w base spare held t5 v5 d5 p5 ∧ DataW.Trod enc P w base spare held t6 v6 d6 p6 := by
  obtain ⟨v0, vs0, d0, ds0, p0, q0, hargs, rfl, rfl, h0, r0⟩ := trodAll_cons h
  obtain ⟨v1, vs1, d1, ds1, p1, q1, rfl, rfl, rfl, h1, r1⟩ := trodAll_cons r0
  obtain ⟨v2, vs2, d2, ds2, p2, q2, rfl, rfl, rfl, h2, r2⟩ := trodAll_cons r1
  obtain ⟨v3, vs3, d3, ds3, p3, q3, rfl, rfl, rfl, h3, r3⟩ := trodAll_cons r2
  obtain ⟨v4, vs4, d4, ds4, p4, q4, rfl, rfl, rfl, h4, r4⟩ := trodAll_cons r3
  obtain ⟨v5, vs5, d5, ds5, p5, q5, rfl, rfl, rfl, h5, r5⟩ := trodAll_cons r4
  obtain ⟨v6, vs6, d6, ds6, p6, q6, rfl, rfl, rfl, h6, r6⟩ := trodAll_cons r5
  obtain ⟨rfl, rfl, rfl⟩ := trodAll_nil r6
  exact ⟨v0, v1, v2, v3, v4, v5, v6, d0, d1, d2, d3, d4, d5, d6, p0, p1, p2, p3, p4, p5, p6, by cases args; simp_all, rfl, by simp, h0, h1, h2, h3, h4, h5, h6⟩
theorem trodAll_mk7 {t0 t1 t2 t3 t4 t5 t6 : TypeId} {v0 v1 v2 v3 v4 v5 v6 : Value} {d0 d1 d2 d3 d4 d5 d6 : DataW H} {p0 p1 p2 p3 p4 p5 p6 : List MemPlace}
    (h0 : DataW.Trod enc P w base spare held t0 v0 d0 p0) (h1 : DataW.Trod enc P w base spare held t1 v1 d1 p1) (h2 : DataW.Trod enc P w base spare held t2 v2 d2 p2) (h3 : DataW.Trod enc P w base spare held t3 v3 d3 p3) (h4 : DataW.Trod enc P w base spare held t4 v4 d4 p4) (h5 : DataW.Trod enc P w base spare held t5 v5 d5 p5) (h6 : DataW.Trod enc P w base spare held t6 v6 d6 p6) :
    DataW.TrodAll enc P w base spare held [t0, t1, t2, t3, t4, t5, t6] [v0, v1, v2, v3, v4, v5, v6] [d0, d1, d2, d3, d4, d5, d6] (p0 ++ (p1 ++ (p2 ++ (p3 ++ (p4 ++ (p5 ++ p6)))))) :=
  ⟨p0, _, h0, ⟨p1, _, h1, ⟨p2, _, h2, trodAll_mk4 h3 h4 h5 h6, rfl⟩, rfl⟩, rfl⟩
end
theorem w_ok (os : Os) : Input.okWideB Tryr.prog ((World.laidAll Tryr.prog os Rows.fnPredicateCombinationMergesExactlyMatchingPairsRow.laid).forCall (fun _ _ => 0) ⟨#[], #[.int .i64 0, .int .i64 0, .int .i64 0, .string ⟨#[]⟩, .string ⟨#[]⟩, .int .i64 0, .int .i64 0], []⟩) 3 ⟨#[], #[.int .i64 0, .int .i64 0, .int .i64 0, .string ⟨#[]⟩, .string ⟨#[]⟩, .int .i64 0, .int .i64 0], []⟩ = true := by kernel_rfl
theorem w_sh (os : Os) : ((World.laidAll Tryr.prog os Rows.fnPredicateCombinationMergesExactlyMatchingPairsRow.laid).forCall (fun _ _ => 0) ⟨#[], #[.int .i64 0, .int .i64 0, .int .i64 0, .string ⟨#[]⟩, .string ⟨#[]⟩, .int .i64 0, .int .i64 0], []⟩).Shaped Tryr.prog := World.shaped_of_ZipB (by kernel_rfl) (by kernel_rfl)
theorem w_laid (os : Os) : laidMetH Tryr.prog Rows.fnPredicateCombinationMergesExactlyMatchingPairsRow.laid ((World.laidAll Tryr.prog os Rows.fnPredicateCombinationMergesExactlyMatchingPairsRow.laid).forCall (fun _ _ => 0) ⟨#[], #[.int .i64 0, .int .i64 0, .int .i64 0, .string ⟨#[]⟩, .string ⟨#[]⟩, .int .i64 0, .int .i64 0], []⟩).memory := by
  rw [MakeChecks.laidMetH_plain _ _ _ (by kernel_rfl)]
  exact laidMet_laidAll _ (by kernel_rfl) (by kernel_rfl)
theorem w_pre {H : Type} (enc : TypeId × Value → H) (os : Os) : (OpenSpec.ofChange Rows.fnPredicateCombinationMergesExactlyMatchingPairsSpec).bare.preB enc Tryr.prog Tryr.f3 [] false ((World.laidAll Tryr.prog os Rows.fnPredicateCombinationMergesExactlyMatchingPairsRow.laid).forCall (fun _ _ => 0) ⟨#[], #[.int .i64 0, .int .i64 0, .int .i64 0, .string ⟨#[]⟩, .string ⟨#[]⟩, .int .i64 0, .int .i64 0], []⟩).memory #[.int .i64 0, .int .i64 0, .int .i64 0, .string ⟨#[]⟩, .string ⟨#[]⟩, .int .i64 0, .int .i64 0] 8 = true := by kernel_rfl
theorem w_sized {H : Type} (enc : TypeId × Value → H) (os : Os) : (OpenSpec.ofChange Rows.fnPredicateCombinationMergesExactlyMatchingPairsSpec).bare.sizedB enc Tryr.prog Tryr.f3 false ((World.laidAll Tryr.prog os Rows.fnPredicateCombinationMergesExactlyMatchingPairsRow.laid).forCall (fun _ _ => 0) ⟨#[], #[.int .i64 0, .int .i64 0, .int .i64 0, .string ⟨#[]⟩, .string ⟨#[]⟩, .int .i64 0, .int .i64 0], []⟩).memory #[.int .i64 0, .int .i64 0, .int .i64 0, .string ⟨#[]⟩, .string ⟨#[]⟩, .int .i64 0, .int .i64 0] 8 = true := by kernel_rfl
theorem w_row {H : Type} (enc : TypeId × Value → H) (os : Os) : (OpenSpec.ofChange Rows.fnPredicateCombinationMergesExactlyMatchingPairsSpec).preRow enc Tryr.prog Tryr.f3 [] false Rows.fnPredicateCombinationMergesExactlyMatchingPairsRow.laid ((World.laidAll Tryr.prog os Rows.fnPredicateCombinationMergesExactlyMatchingPairsRow.laid).forCall (fun _ _ => 0) ⟨#[], #[.int .i64 0, .int .i64 0, .int .i64 0, .string ⟨#[]⟩, .string ⟨#[]⟩, .int .i64 0, .int .i64 0], []⟩).memory #[.int .i64 0, .int .i64 0, .int .i64 0, .string ⟨#[]⟩, .string ⟨#[]⟩, .int .i64 0, .int .i64 0] :=
  OpenSpec.preRow_of_B rfl 8 (w_pre enc os) (w_sized enc os) (w_laid os)
theorem lifted (os : Os) (started : os.Started) (H : Type) (enc : TypeId × Value → H) :
    ReturnsInTold none {} Tryr.checked os 3 .any Input.okWide ((OpenSpec.ofChange Rows.fnPredicateCombinationMergesExactlyMatchingPairsSpec).preRow enc Tryr.prog Tryr.f3 [] false Rows.fnPredicateCombinationMergesExactlyMatchingPairsRow.laid)
      (fun F => ((OpenSpec.ofChange Rows.fnPredicateCombinationMergesExactlyMatchingPairsSpec).at F).post enc Tryr.prog Tryr.f3 false true false false) (aloneAtReturn Tryr.prog) nothingAlways := by
  refine returnsInTold_of_row (C := Tryr.checked) (s := OpenSpec.ofChange Rows.fnPredicateCombinationMergesExactlyMatchingPairsSpec) (by kernel_rfl) own started (by kernel_rfl) Tryr.func3 (witness_of (C := Tryr.checked) false _ _ (World.laidAll_os _ _ _) (w_sh os) (w_ok os) (w_row enc os)) ?_
  intro F W base args ds gs before _ hF hval0 hW _ _ _ hL _
  have hval : ∀ (j : Nat) t v, Tryr.f3.params[j]? = some t → args[j]? = some v → Value.okWide Tryr.prog W .any base t v := hval0
  have hW' := hW
  obtain ⟨p, q, hA0, hV, rfl, _, _⟩ := hW
  have hA : DataW.TrodAll enc Tryr.prog W 0 (fun _ => true) true Tryr.f3.params.toList args.toList ds p := hA0
  rw [Tryr.params3] at hA hval
  obtain ⟨v0, v1, v2, v3, v4, v5, v6, d0, d1, d2, d3, d4, d5, d6, p0, p1, p2, p3, p4, p5, p6, rfl, rfl, rfl, h0, h1, h2, h3, h4, h5, h6⟩ := trodAll_seven hA
  obtain ⟨a0, rfl, rfl, rfl, w0⟩ := open_int Tryr.underlying3 (hval 0 3 v0 rfl rfl) h0
  obtain ⟨a1, rfl, rfl, rfl, w1⟩ := open_int Tryr.underlying3 (hval 1 3 v1 rfl rfl) h1
  obtain ⟨a2, rfl, rfl, rfl, w2⟩ := open_int Tryr.underlying3 (hval 2 3 v2 rfl rfl) h2
  obtain ⟨a3, rfl, rfl, rfl, w3⟩ := open_string Tryr.underlying9 (hval 3 9 v3 rfl rfl) h3
  obtain ⟨a4, rfl, rfl, rfl, w4⟩ := open_string Tryr.underlying9 (hval 4 9 v4 rfl rfl) h4
  obtain ⟨a5, rfl, rfl, rfl, w5⟩ := open_int Tryr.underlying3 (hval 5 3 v5 rfl rfl) h5
  obtain ⟨a6, rfl, rfl, rfl, w6⟩ := open_int Tryr.underlying3 (hval 6 3 v6 rfl rfl) h6
  obtain ⟨rfl, rfl⟩ := trodVars_none hV
  refine (law11 a0 a1 a2 a3 a4 a5 a6 W).mono ?_
  rintro e W' ⟨he, hb⟩
  subst he
  exact ⟨_, rfl, _, _, _, [], _, _, hW', trodAll_mk1 (shut_bool Tryr.underlying4 _), trodAll_mk7 (shut_int Tryr.underlying3 w0) (shut_int Tryr.underlying3 w1) (shut_int Tryr.underlying3 w2) (shut_string Tryr.underlying9 w3) (shut_string Tryr.underlying9 w4) (shut_int Tryr.underlying3 w5) (shut_int Tryr.underlying3 w6), rfl, hb.frame _, fun h => by cases h⟩
end Go.Proofs.YtiddjmnknndcaaaReflFmt.row11
