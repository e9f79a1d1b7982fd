/-
The told row: for any two natures and any list of checks MaybeCompatible answers alike with its operands swapped, with the checks reversed, and stays true with more checks. Condition: fmt's text is told (it is never asked).
-/
import Derived.Test.YthlmcnlkmgeohaaReflFmtLaw10b
import Derived.Test.YthlmcnlkmgeohaaReflFmtCards
import Derived.ProofKit
import Derived.Stop.JoinedAt
import Derived.Stop.JoinedTold
import Derived.Lay
import Derived.OpenVars
import Derived.SevenToldRow
import Derived.SevenTiedAt
import Derived.SizedLaws
import Derived.ClosedOfChecked
namespace Go.Proofs.YthlmcnlkmgeohaaReflFmt.row10
open Go Go.Proofs Go.RowKit Go.ChangeShapes Go.WideShapes Go.ChangeAt Go.Kit
open Go.Extern.Stop Go.Stop Go.Extern
open Go.Proofs.YthlmcnlkmgeohaaReflFmt.nat
set_option maxRecDepth 100000
theorem own : ownKnob Tryr.prog.godebug = none := by kernel_rfl
theorem hty : Tryr.checked.prog.types = Tryr.checked.src.types := by kernel_rfl
theorem rest : (Tryr.prog.globals.all (fun g => decide (g.type < Tryr.prog.types.size)) && Tryr.prog.funcs.all (fun f => f.params.all fun t => decide (t < Tryr.prog.types.size))) = true := by kernel_rfl
theorem keys : ClosedOfChecked.keysListB Tryr.prog = true := by kernel_rfl
theorem closed3 : laidOutB Tryr.prog = true ∧ mapsRowed Tryr.prog = true ∧ Tryr.prog.plainKeys = true := ClosedOfChecked.closed_of_checked Tryr.checked hty rest keys
theorem laidOut : laidOutB Tryr.prog = true := closed3.1
theorem cells5 : Tryr.prog.cellsOf 5 = 1 := by kernel_rfl
/-- a witness for a row over stops, at a world of one's own making whose shape is shown -/
theorem witness_of {H : Type} {enc : TypeId × Value → H} {C : Checked} {os : Os} {f : FuncId} {fn : Func} {s : OpenSpec} {conds : List PathCond} {apart : Bool} {laid : List (String × DataW Unit)} (modest : Bool) (w0 : World) (args : Array Value) (hos : w0.os = os)
    (hsh : (w0.forCall (fun _ _ => 0) ⟨#[], args, []⟩).Shaped C.prog)
    (hok : Input.okWideB C.prog (w0.forCall (fun _ _ => 0) ⟨#[], args, []⟩) f ⟨#[], args, []⟩ = true)
    (hrow : s.preRow enc C.prog fn conds apart laid (w0.forCall (fun _ _ => 0) ⟨#[], args, []⟩).memory args) (F : Stop.Interp) :
    ∃ (w : World) (tape : Tape) (i : Input), w.os = os ∧ (w.forCall tape i).Shaped C.prog ∧ i.vars = [] ∧ Input.okWide C.prog (w.forCall tape i) .any w.heap.size f i ∧
      s.preRow enc C.prog fn conds apart laid (w.forCall tape i).memory i.args ∧ ({ modest := modest } : Assume).holds C.prog (lone (Frame.enter C.prog f i.args .normal) [] (w.forCall tape i)) ∧ F.answers tape :=
  ⟨w0, F.over fun _ _ => 0, ⟨#[], args, []⟩, hos, hsh, (Input.okWide_of_okWideB (base := 0) hok).1, (Input.okWide_of_okWideB hok).2, hrow, by
    simp only [Assume.holds]
    exact ⟨by simp, by simp, fun _ => F.over_modest Modest.zero, by simp, by simp⟩, F.over_answers _⟩
/-- a slice of bytes among the input's values: its list, with the places of its cells -/
theorem bytes_of {H : Type} {enc : TypeId × Value → H} {W : World} {s : Option Addr} {n c : Nat} {d : DataW H} {ps : List MemPlace} (h : DataW.Trod enc Tryr.prog W 0 (fun _ => true) true 35 (.slice s n c) d ps) :
    ∃ (ys : List Int) (b0 off : Nat), n = ys.length ∧ (ys = [] ∨ s = some ⟨b0, off, none⟩) ∧ (∀ y ∈ ys, 0 ≤ y ∧ y ≤ 255) ∧ (ys ≠ [] → b0 < W.heap.size) ∧ (∀ j, j < ys.length → W.cell? ⟨b0, off + j, none⟩ = some (.int .u8 (ys.getD j 0))) := by
  obtain ⟨fuel, hf⟩ := h
  rcases open_ints Tryr.underlying35 Tryr.underlying5 cells5 hf with ⟨hcs, _⟩ | ⟨a', len', cap', zs, hcs, _, hl, hm, hz, _, hcell, hwz⟩
  · simp [Value.cells] at hcs
    obtain ⟨rfl, rfl, rfl⟩ := hcs
    exact ⟨[], 0, 0, rfl, .inl rfl, by simp, fun h => absurd rfl h, fun j hj => absurd hj (Nat.not_lt_zero _)⟩
  · simp [Value.cells] at hcs
    obtain ⟨rfl, rfl, rfl⟩ := hcs
    simp only [if_true] at hz
    have hlz : (zs.take n).length = n := by simp; omega
    have hy : ∀ y ∈ zs.take n, 0 ≤ y ∧ y ≤ 255 := fun z hzm => by
      have := hwz z (List.mem_of_mem_take hzm)
      simpa [Lit.wf, IntKind.min, IntKind.max, IntKind.signed, IntKind.bits] using this
    obtain ⟨b0, off, spot⟩ := a'
    rcases Nat.eq_zero_or_pos n with h0 | h0
    · subst h0
      exact ⟨[], 0, 0, rfl, .inl rfl, by simp, fun h => absurd rfl h, fun j hj => absurd hj (Nat.not_lt_zero _)⟩
    · have hspot : spot = none := by simpa [Addr.add] using World.cell?_spot (hcell 0 (by omega))
      subst hspot
      have hbW : b0 < W.heap.size := World.block_lt_of_cell? W _ (by have := hcell 0 (by omega); simpa [Addr.add] using this)
      refine ⟨zs.take n, b0, off, hlz.symm, .inr rfl, hy, fun _ => hbW, fun j hj => ?_⟩
      rw [hlz] at hj
      have e : (⟨b0, off + j, none⟩ : Addr) = (⟨b0, off, none⟩ : Addr).add j := by by_cases hj0 : j = 0 <;> simp [Addr.add, hj0]
      rw [e, hcell j (by omega)]
      simp [List.getD_eq_getElem?_getD, hj]
theorem w_ok (os : Os) : Input.okWideB Tryr.prog ((World.laidAll Tryr.prog os Rows.fnMaybeCompatibleSymmetricMonotoneRow.laid).forCall (fun _ _ => 0) ⟨#[], #[.int .u8 0, .int .u8 0, .slice none 0 0, .slice none 0 0], []⟩) 4 ⟨#[], #[.int .u8 0, .int .u8 0, .slice none 0 0, .slice none 0 0], []⟩ = true := by kernel_rfl
theorem w_sh (os : Os) : ((World.laidAll Tryr.prog os Rows.fnMaybeCompatibleSymmetricMonotoneRow.laid).forCall (fun _ _ => 0) ⟨#[], #[.int .u8 0, .int .u8 0, .slice none 0 0, .slice none 0 0], []⟩).Shaped Tryr.prog := World.shaped_of_ZipB (by kernel_rfl) (by kernel_rfl)
theorem w_laid (os : Os) : laidMetH Tryr.prog Rows.fnMaybeCompatibleSymmetricMonotoneRow.laid ((World.laidAll Tryr.prog os Rows.fnMaybeCompatibleSymmetricMonotoneRow.laid).forCall (fun _ _ => 0) ⟨#[], #[.int .u8 0, .int .u8 0, .slice none 0 0, .slice none 0 0], []⟩).memory := by
  rw [MakeChecks.laidMetH_plain _ _ _ (by kernel_rfl)]
  exact laidMet_laidAll _ (by kernel_rfl) (by kernel_rfl)
theorem w_pre {H : Type} (enc : TypeId × Value → H) (os : Os) : (OpenSpec.ofChange Rows.fnMaybeCompatibleSymmetricMonotoneSpec).bare.preB enc Tryr.prog Tryr.f4 [] false ((World.laidAll Tryr.prog os Rows.fnMaybeCompatibleSymmetricMonotoneRow.laid).forCall (fun _ _ => 0) ⟨#[], #[.int .u8 0, .int .u8 0, .slice none 0 0, .slice none 0 0], []⟩).memory #[.int .u8 0, .int .u8 0, .slice none 0 0, .slice none 0 0] 8 = true := by kernel_rfl
theorem w_sized {H : Type} (enc : TypeId × Value → H) (os : Os) : (OpenSpec.ofChange Rows.fnMaybeCompatibleSymmetricMonotoneSpec).bare.sizedB enc Tryr.prog Tryr.f4 false ((World.laidAll Tryr.prog os Rows.fnMaybeCompatibleSymmetricMonotoneRow.laid).forCall (fun _ _ => 0) ⟨#[], #[.int .u8 0, .int .u8 0, .slice none 0 0, .slice none 0 0], []⟩).memory #[.int .u8 0, .int .u8 0, .slice none 0 0, .slice none 0 0] 8 = true := by kernel_rfl
theorem w_row {H : Type} (enc : TypeId × Value → H) (os : Os) : (OpenSpec.ofChange Rows.fnMaybeCompatibleSymmetricMonotoneSpec).preRow enc Tryr.prog Tryr.f4 [] false Rows.fnMaybeCompatibleSymmetricMonotoneRow.laid ((World.laidAll Tryr.prog os Rows.fnMaybeCompatibleSymmetricMonotoneRow.laid).forCall (fun _ _ => 0) ⟨#[], #[.int .u8 0, .int .u8 0, .slice none 0 0, .slice none 0 0], []⟩).memory #[.int .u8 0, .int .u8 0, .slice none 0 0, .slice none 0 0] :=
  OpenSpec.preRow_of_B rfl 8 (w_pre enc os) (w_sized enc os) (w_laid os)
theorem lifted (os : Os) (started : os.Started) (H : Type) (enc : TypeId × Value → H) :
    ReturnsInTold none {} Tryr.checked os 4 .any Input.okWide ((OpenSpec.ofChange Rows.fnMaybeCompatibleSymmetricMonotoneSpec).preRow enc Tryr.prog Tryr.f4 [] false Rows.fnMaybeCompatibleSymmetricMonotoneRow.laid)
      (fun F => ((OpenSpec.ofChange Rows.fnMaybeCompatibleSymmetricMonotoneSpec).at F).post enc Tryr.prog Tryr.f4 false true false false) (aloneAtReturn Tryr.prog) nothingAlways := by
  refine returnsInTold_of_row (C := Tryr.checked) (s := OpenSpec.ofChange Rows.fnMaybeCompatibleSymmetricMonotoneSpec) (by kernel_rfl) own started (by kernel_rfl) Tryr.func4 (witness_of (C := Tryr.checked) false _ _ (World.laidAll_os _ _ _) (w_sh os) (w_ok os) (w_row enc os)) ?_
  intro F W base args ds gs before _ hF hval0 hW _ _ _ hL _
  have hval : ∀ (j : Nat) t v, Tryr.f4.params[j]? = some t → args[j]? = some v → Value.okWide Tryr.prog W .any base t v := hval0
  have hW' := hW
  obtain ⟨p, q, hA0, hV, rfl, _, _⟩ := hW
  have hA : DataW.TrodAll enc Tryr.prog W 0 (fun _ => true) true Tryr.f4.params.toList args.toList ds p := hA0
  rw [Tryr.params4] at hA hval
  obtain ⟨v0, v1, v2, v3, d0, d1, d2, d3, p0, p1, p2, p3, rfl, rfl, rfl, h0, h1, h2, h3⟩ := trodAll_four hA
  obtain ⟨a, rfl, rfl, rfl, wa⟩ := open_int Tryr.underlying5 (hval 0 5 v0 rfl rfl) h0
  obtain ⟨b, rfl, rfl, rfl, wb⟩ := open_int Tryr.underlying5 (hval 1 5 v1 rfl rfl) h1
  obtain ⟨s1, n1, c1, rfl⟩ := okWide_slice Tryr.underlying35 (hval 2 35 v2 rfl rfl)
  obtain ⟨s2, n2, c2, rfl⟩ := okWide_slice Tryr.underlying35 (hval 3 35 v3 rfl rfl)
  obtain ⟨rfl, rfl⟩ := trodVars_none hV
  have ha : 0 ≤ a ∧ a ≤ 255 := by simpa [Lit.wf, IntKind.min, IntKind.max, IntKind.signed, IntKind.bits] using wa
  have hb : 0 ≤ b ∧ b ≤ 255 := by simpa [Lit.wf, IntKind.min, IntKind.max, IntKind.signed, IntKind.bits] using wb
  have hlt2 : ∀ x ∈ p2, x.block < W.heap.size := fun x hx => by simpa using hW'.lt x (by simp [hx])
  have hlt3 : ∀ x ∈ p3, x.block < W.heap.size := fun x hx => by simpa using hW'.lt x (by simp [hx])
  have fin : ∀ {e : Ending} {W' : World}, e = .returned (.bool true) ∧ Below W.heap.size W W' → ∃ v, e = Ending.returned v ∧ ((OpenSpec.ofChange Rows.fnMaybeCompatibleSymmetricMonotoneSpec).at F).post enc Tryr.checked.prog Tryr.f4 false true false false W #[.int .u8 a, .int .u8 b, .slice s1 n1 c1, .slice s2 n2 c2] v W' := by
    rintro e W' ⟨he, hb⟩
    subst he
    exact ⟨_, rfl, _, _, _, [], _, _, hW', trodAll_mk1 (shut_bool Tryr.underlying4 _), trodAll_mk4 (shut_int Tryr.underlying5 wa) (shut_int Tryr.underlying5 wb) (Below.trod laidOut (by kernel_rfl) (of_decide_eq_true (by kernel_rfl)) h2 hb hlt2) (Below.trod laidOut (by kernel_rfl) (of_decide_eq_true (by kernel_rfl)) h3 hb hlt3), rfl, hb.frame _, fun h => by cases h⟩
  by_cases hn : n1 ≤ 65536 ∧ n2 ≤ 65536
  · obtain ⟨ys, b1, o1, rfl, hs1, hy, hb1, hc1⟩ := bytes_of h2
    obtain ⟨es, b2, o2, rfl, hs2, he, hb2, hc2⟩ := bytes_of h3
    exact (law10 a b ha hb s1 s2 b1 o1 c1 b2 o2 c2 ys es hs1 hs2 hy he hn.1 hn.2 W hb1 hb2 hc1 hc2).mono fun e W' h => fin h
  · exact (law10_big a b s1 s2 n1 c1 n2 c2 (by omega) W).mono fun e W' h => fin h
end Go.Proofs.YthlmcnlkmgeohaaReflFmt.row10
