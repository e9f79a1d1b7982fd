/-
The told row: sumArray rewrites the sum of a literal array of integers exactly where it is the sum of one array of two or more. Condition: the text of fmt's error is told (it is never asked).
-/
import Derived.Test.YtkgllpdcpmcmoaaReflFmtLaw12
import Derived.Test.YtkgllpdcpmcmoaaReflFmtCards
import Derived.ProofKit
import Derived.Stop.JoinedAt
import Derived.Stop.JoinedTold
import Derived.Lay
import Derived.OpenVars
import Derived.SevenToldRow
import Derived.SevenTiedAt
import Derived.SizedLaws
import Derived.ClosedOfChecked
namespace Go.Proofs.YtkgllpdcpmcmoaaReflFmt.row12
open Go Go.Proofs Go.RowKit Go.ChangeShapes Go.WideShapes Go.ChangeAt Go.Kit
open Go.Extern.Stop Go.Stop Go.Extern
open Go.Proofs.YtkgllpdcpmcmoaaReflFmt.opt
set_option maxRecDepth 100000
theorem own : ownKnob Tryr.prog.godebug = none := by kernel_rfl
theorem hty : Tryr.checked.prog.types = Tryr.checked.src.types := by kernel_rfl
theorem rest : (Tryr.prog.globals.all (fun g => decide (g.type < Tryr.prog.types.size)) && Tryr.prog.funcs.all (fun f => f.params.all fun t => decide (t < Tryr.prog.types.size))) = true := by kernel_rfl
theorem keys : ClosedOfChecked.keysListB Tryr.prog = true := by kernel_rfl
theorem closed3 : laidOutB Tryr.prog = true ∧ mapsRowed Tryr.prog = true ∧ Tryr.prog.plainKeys = true := ClosedOfChecked.closed_of_checked Tryr.checked hty rest keys
theorem laidOut : laidOutB Tryr.prog = true := closed3.1
theorem cellsI : Tryr.prog.cellsOf 3 = 1 := by kernel_rfl
/-- a witness for a row over stops, at a world of one's own making whose shape is shown -/
theorem witness_of {H : Type} {enc : TypeId × Value → H} {C : Checked} {os : Os} {f : FuncId} {fn : Func} {s : OpenSpec} {conds : List PathCond} {apart : Bool} {laid : List (String × DataW Unit)} (modest : Bool) (w0 : World) (args : Array Value) (hos : w0.os = os)
    (hsh : (w0.forCall (fun _ _ => 0) ⟨#[], args, []⟩).Shaped C.prog)
    (hok : Input.okWideB C.prog (w0.forCall (fun _ _ => 0) ⟨#[], args, []⟩) f ⟨#[], args, []⟩ = true)
    (hrow : s.preRow enc C.prog fn conds apart laid (w0.forCall (fun _ _ => 0) ⟨#[], args, []⟩).memory args) (F : Stop.Interp) :
    ∃ (w : World) (tape : Tape) (i : Input), w.os = os ∧ (w.forCall tape i).Shaped C.prog ∧ i.vars = [] ∧ Input.okWide C.prog (w.forCall tape i) .any w.heap.size f i ∧
      s.preRow enc C.prog fn conds apart laid (w.forCall tape i).memory i.args ∧ ({ modest := modest } : Assume).holds C.prog (lone (Frame.enter C.prog f i.args .normal) [] (w.forCall tape i)) ∧ F.answers tape :=
  ⟨w0, F.over fun _ _ => 0, ⟨#[], args, []⟩, hos, hsh, (Input.okWide_of_okWideB (base := 0) hok).1, (Input.okWide_of_okWideB hok).2, hrow, by
    simp only [Assume.holds]
    exact ⟨by simp, by simp, fun _ => F.over_modest Modest.zero, by simp, by simp⟩, F.over_answers _⟩
/-- a slice of integers among the input's values: its list, with the places of its cells -/
theorem ints_of {H : Type} {enc : TypeId × Value → H} {W : World} {s : Option Addr} {n c : Nat} {d : DataW H} {ps : List MemPlace} (h : DataW.Trod enc Tryr.prog W 0 (fun _ => true) true 36 (.slice s n c) d ps) :
    ∃ (zs : List Int), n = zs.length ∧ ((s = none ∧ zs = [] ∧ c = 0) ∨ ∃ ad, s = some ad ∧ ∀ j, j < zs.length → W.cell? (ad.add j) = some (.int .i64 (zs.getD j 0))) := by
  obtain ⟨fuel, hf⟩ := h
  rcases open_ints Tryr.underlying36 Tryr.underlying3 cellsI hf with ⟨hcs, _⟩ | ⟨a', len', cap', zs, hcs, _, hl, hm, hz, _, hcell, hwz⟩
  · simp [Value.cells] at hcs
    obtain ⟨rfl, rfl, rfl⟩ := hcs
    exact ⟨[], rfl, .inl ⟨rfl, rfl, rfl⟩⟩
  · simp [Value.cells] at hcs
    obtain ⟨rfl, rfl, rfl⟩ := hcs
    simp only [if_true] at hz
    have hlz : (zs.take n).length = n := by simp; omega
    refine ⟨zs.take n, hlz.symm, .inr ⟨a', rfl, fun j hj => ?_⟩⟩
    rw [hlz] at hj
    rw [hcell j (by omega)]
    simp [List.getD_eq_getElem?_getD, hj]
theorem w_ok (os : Os) : Input.okWideB Tryr.prog ((World.laidAll Tryr.prog os Rows.fnSumArrayRewritesExactlyForSumOfOneArrayOfTwoOrMoreRow.laid).forCall (fun _ _ => 0) ⟨#[], #[.int .i64 0, .slice none 0 0, .bool false], []⟩) 3 ⟨#[], #[.int .i64 0, .slice none 0 0, .bool false], []⟩ = true := by kernel_rfl
theorem w_sh (os : Os) : ((World.laidAll Tryr.prog os Rows.fnSumArrayRewritesExactlyForSumOfOneArrayOfTwoOrMoreRow.laid).forCall (fun _ _ => 0) ⟨#[], #[.int .i64 0, .slice none 0 0, .bool false], []⟩).Shaped Tryr.prog := World.shaped_of_ZipB (by kernel_rfl) (by kernel_rfl)
theorem w_laid (os : Os) : laidMetH Tryr.prog Rows.fnSumArrayRewritesExactlyForSumOfOneArrayOfTwoOrMoreRow.laid ((World.laidAll Tryr.prog os Rows.fnSumArrayRewritesExactlyForSumOfOneArrayOfTwoOrMoreRow.laid).forCall (fun _ _ => 0) ⟨#[], #[.int .i64 0, .slice none 0 0, .bool false], []⟩).memory := by
  rw [MakeChecks.laidMetH_plain _ _ _ (by kernel_rfl)]
  exact laidMet_laidAll _ (by kernel_rfl) (by kernel_rfl)
theorem w_pre {H : Type} (enc : TypeId × Value → H) (os : Os) : (OpenSpec.ofChange Rows.fnSumArrayRewritesExactlyForSumOfOneArrayOfTwoOrMoreSpec).bare.preB enc Tryr.prog Tryr.f3 [] false ((World.laidAll Tryr.prog os Rows.fnSumArrayRewritesExactlyForSumOfOneArrayOfTwoOrMoreRow.laid).forCall (fun _ _ => 0) ⟨#[], #[.int .i64 0, .slice none 0 0, .bool false], []⟩).memory #[.int .i64 0, .slice none 0 0, .bool false] 8 = true := by kernel_rfl
theorem w_sized {H : Type} (enc : TypeId × Value → H) (os : Os) : (OpenSpec.ofChange Rows.fnSumArrayRewritesExactlyForSumOfOneArrayOfTwoOrMoreSpec).bare.sizedB enc Tryr.prog Tryr.f3 false ((World.laidAll Tryr.prog os Rows.fnSumArrayRewritesExactlyForSumOfOneArrayOfTwoOrMoreRow.laid).forCall (fun _ _ => 0) ⟨#[], #[.int .i64 0, .slice none 0 0, .bool false], []⟩).memory #[.int .i64 0, .slice none 0 0, .bool false] 8 = true := by kernel_rfl
theorem w_row {H : Type} (enc : TypeId × Value → H) (os : Os) : (OpenSpec.ofChange Rows.fnSumArrayRewritesExactlyForSumOfOneArrayOfTwoOrMoreSpec).preRow enc Tryr.prog Tryr.f3 [] false Rows.fnSumArrayRewritesExactlyForSumOfOneArrayOfTwoOrMoreRow.laid ((World.laidAll Tryr.prog os Rows.fnSumArrayRewritesExactlyForSumOfOneArrayOfTwoOrMoreRow.laid).forCall (fun _ _ => 0) ⟨#[], #[.int .i64 0, .slice none 0 0, .bool false], []⟩).memory #[.int .i64 0, .slice none 0 0, .bool false] :=
  OpenSpec.preRow_of_B rfl 8 (w_pre enc os) (w_sized enc os) (w_laid os)
theorem lifted (os : Os) (started : os.Started) (H : Type) (enc : TypeId × Value → H) :
    ReturnsInTold none {} Tryr.checked os 3 .any Input.okWide ((OpenSpec.ofChange Rows.fnSumArrayRewritesExactlyForSumOfOneArrayOfTwoOrMoreSpec).preRow enc Tryr.prog Tryr.f3 [] false Rows.fnSumArrayRewritesExactlyForSumOfOneArrayOfTwoOrMoreRow.laid)
      (fun F => ((OpenSpec.ofChange Rows.fnSumArrayRewritesExactlyForSumOfOneArrayOfTwoOrMoreSpec).at F).post enc Tryr.prog Tryr.f3 false true false false) (aloneAtReturn Tryr.prog) nothingAlways := by
  refine returnsInTold_of_row (C := Tryr.checked) (s := OpenSpec.ofChange Rows.fnSumArrayRewritesExactlyForSumOfOneArrayOfTwoOrMoreSpec) (by kernel_rfl) own started (by kernel_rfl) Tryr.func3 (witness_of (C := Tryr.checked) false _ _ (World.laidAll_os _ _ _) (w_sh os) (w_ok os) (w_row enc os)) ?_
  intro F W base args ds gs before _ hF hval0 hW _ _ _ hL _
  have hval : ∀ (j : Nat) t v, Tryr.f3.params[j]? = some t → args[j]? = some v → Value.okWide Tryr.prog W .any base t v := hval0
  have hW' := hW
  obtain ⟨p, q, hA0, hV, rfl, _, _⟩ := hW
  have hA : DataW.TrodAll enc Tryr.prog W 0 (fun _ => true) true Tryr.f3.params.toList args.toList ds p := hA0
  rw [Tryr.params3] at hA hval
  obtain ⟨v0, v1, v2, d0, d1, d2, p0, p1, p2, rfl, rfl, rfl, h0, h1, h2⟩ := trodAll_three hA
  obtain ⟨a, rfl, rfl, rfl, wa⟩ := open_int Tryr.underlying3 (hval 0 3 v0 rfl rfl) h0
  obtain ⟨s1, n1, c1, rfl⟩ := okWide_slice Tryr.underlying36 (hval 1 36 v1 rfl rfl)
  obtain ⟨x, rfl, rfl, rfl⟩ := open_bool Tryr.underlying4 (hval 2 4 v2 rfl rfl) h2
  obtain ⟨rfl, rfl⟩ := trodVars_none hV
  have hlt1 : ∀ x ∈ p1, x.block < W.heap.size := fun x hx => by simpa using hW'.lt x (by simp [hx])
  obtain ⟨zs, rfl, hs⟩ := ints_of h1
  refine (law12 a s1 c1 zs x W hs).mono ?_
  rintro e W' ⟨he, hb⟩
  subst he
  exact ⟨_, rfl, _, _, _, [], _, _, hW', trodAll_mk1 (shut_bool Tryr.underlying4 _), trodAll_mk3 (shut_int Tryr.underlying3 wa) (Below.trod laidOut (by kernel_rfl) (of_decide_eq_true (by kernel_rfl)) h1 hb hlt1) (shut_bool Tryr.underlying4 _), rfl, hb.frame _, fun h => by cases h⟩
end Go.Proofs.YtkgllpdcpmcmoaaReflFmt.row12
