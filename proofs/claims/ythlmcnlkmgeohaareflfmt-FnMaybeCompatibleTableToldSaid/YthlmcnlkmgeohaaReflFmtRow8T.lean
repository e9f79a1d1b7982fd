/-
The told row: for any two natures and any list of checks MaybeCompatible answers as the table says. Condition: fmt's text is told (it is never asked).
-/
import Derived.Test.YthlmcnlkmgeohaaReflFmtLaw8
import Derived.Test.YthlmcnlkmgeohaaReflFmtCards
import Derived.ProofKit
import Derived.Stop.JoinedAt
import Derived.Stop.JoinedTold
import Derived.Lay
import Derived.OpenVars
import Derived.SevenToldRow
import Derived.SevenTiedAt
import Derived.SizedLaws
import Derived.ClosedOfChecked
namespace Go.Proofs.YthlmcnlkmgeohaaReflFmt.row8
open Go Go.Proofs Go.RowKit Go.ChangeShapes Go.WideShapes Go.ChangeAt Go.Kit
open Go.Extern.Stop Go.Stop Go.Extern
open Go.Proofs.YthlmcnlkmgeohaaReflFmt.nat
set_option maxRecDepth 100000
theorem own : ownKnob Tryr.prog.godebug = none := by kernel_rfl
theorem hty : Tryr.checked.prog.types = Tryr.checked.src.types := by kernel_rfl
theorem rest : (Tryr.prog.globals.all (fun g => decide (g.type < Tryr.prog.types.size)) && Tryr.prog.funcs.all (fun f => f.params.all fun t => decide (t < Tryr.prog.types.size))) = true := by kernel_rfl
theorem keys : ClosedOfChecked.keysListB Tryr.prog = true := by kernel_rfl
theorem closed3 : laidOutB Tryr.prog = true ∧ mapsRowed Tryr.prog = true ∧ Tryr.prog.plainKeys = true := ClosedOfChecked.closed_of_checked Tryr.checked hty rest keys
theorem laidOut : laidOutB Tryr.prog = true := closed3.1
theorem cells5 : Tryr.prog.cellsOf 5 = 1 := by kernel_rfl
/-- a witness for a row over stops, at a world of one's own making whose shape is shown -/
theorem witness_of {H : Type} {enc : TypeId × Value → H} {C : Checked} {os : Os} {f : FuncId} {fn : Func} {s : OpenSpec} {conds : List PathCond} {apart : Bool} {laid : List (String × DataW Unit)} (modest : Bool) (w0 : World) (args : Array Value) (hos : w0.os = os)
    (hsh : (w0.forCall (fun _ _ => 0) ⟨#[], args, []⟩).Shaped C.prog)
    (hok : Input.okWideB C.prog (w0.forCall (fun _ _ => 0) ⟨#[], args, []⟩) f ⟨#[], args, []⟩ = true)
    (hrow : s.preRow enc C.prog fn conds apart laid (w0.forCall (fun _ _ => 0) ⟨#[], args, []⟩).memory args) (F : Stop.Interp) :
    ∃ (w : World) (tape : Tape) (i : Input), w.os = os ∧ (w.forCall tape i).Shaped C.prog ∧ i.vars = [] ∧ Input.okWide C.prog (w.forCall tape i) .any w.heap.size f i ∧
      s.preRow enc C.prog fn conds apart laid (w.forCall tape i).memory i.args ∧ ({ modest := modest } : Assume).holds C.prog (lone (Frame.enter C.prog f i.args .normal) [] (w.forCall tape i)) ∧ F.answers tape :=
  ⟨w0, F.over fun _ _ => 0, ⟨#[], args, []⟩, hos, hsh, (Input.okWide_of_okWideB (base := 0) hok).1, (Input.okWide_of_okWideB hok).2, hrow, by
    simp only [Assume.holds]
    exact ⟨by simp, by simp, fun _ => F.over_modest Modest.zero, by simp, by simp⟩, F.over_answers _⟩
theorem w_ok (os : Os) : Input.okWideB Tryr.prog ((World.laidAll Tryr.prog os Rows.fnMaybeCompatibleTableRow.laid).forCall (fun _ _ => 0) ⟨#[], #[.int .u8 0, .int .u8 0, .slice none 0 0], []⟩) 3 ⟨#[], #[.int .u8 0, .int .u8 0, .slice none 0 0], []⟩ = true := by kernel_rfl
theorem w_sh (os : Os) : ((World.laidAll Tryr.prog os Rows.fnMaybeCompatibleTableRow.laid).forCall (fun _ _ => 0) ⟨#[], #[.int .u8 0, .int .u8 0, .slice none 0 0], []⟩).Shaped Tryr.prog := World.shaped_of_ZipB (by kernel_rfl) (by kernel_rfl)
theorem w_laid (os : Os) : laidMetH Tryr.prog Rows.fnMaybeCompatibleTableRow.laid ((World.laidAll Tryr.prog os Rows.fnMaybeCompatibleTableRow.laid).forCall (fun _ _ => 0) ⟨#[], #[.int .u8 0, .int .u8 0, .slice none 0 0], []⟩).memory := by
  rw [MakeChecks.laidMetH_plain _ _ _ (by kernel_rfl)]
  exact laidMet_laidAll _ (by kernel_rfl) (by kernel_rfl)
theorem w_pre {H : Type} (enc : TypeId × Value → H) (os : Os) : (OpenSpec.ofChange Rows.fnMaybeCompatibleTableSpec).bare.preB enc Tryr.prog Tryr.f3 [] false ((World.laidAll Tryr.prog os Rows.fnMaybeCompatibleTableRow.laid).forCall (fun _ _ => 0) ⟨#[], #[.int .u8 0, .int .u8 0, .slice none 0 0], []⟩).memory #[.int .u8 0, .int .u8 0, .slice none 0 0] 8 = true := by kernel_rfl
theorem w_sized {H : Type} (enc : TypeId × Value → H) (os : Os) : (OpenSpec.ofChange Rows.fnMaybeCompatibleTableSpec).bare.sizedB enc Tryr.prog Tryr.f3 false ((World.laidAll Tryr.prog os Rows.fnMaybeCompatibleTableRow.laid).forCall (fun _ _ => 0) ⟨#[], #[.int .u8 0, .int .u8 0, .slice none 0 0], []⟩).memory #[.int .u8 0, .int .u8 0, .slice none 0 0] 8 = true := by kernel_rfl
theorem w_row {H : Type} (enc : TypeId × Value → H) (os : Os) : (OpenSpec.ofChange Rows.fnMaybeCompatibleTableSpec).preRow enc Tryr.prog Tryr.f3 [] false Rows.fnMaybeCompatibleTableRow.laid ((World.laidAll Tryr.prog os Rows.fnMaybeCompatibleTableRow.laid).forCall (fun _ _ => 0) ⟨#[], #[.int .u8 0, .int .u8 0, .slice none 0 0], []⟩).memory #[.int .u8 0, .int .u8 0, .slice none 0 0] :=
  OpenSpec.preRow_of_B rfl 8 (w_pre enc os) (w_sized enc os) (w_laid os)
theorem lifted (os : Os) (started : os.Started) (H : Type) (enc : TypeId × Value → H) :
    ReturnsInTold none {} Tryr.checked os 3 .any Input.okWide ((OpenSpec.ofChange Rows.fnMaybeCompatibleTableSpec).preRow enc Tryr.prog Tryr.f3 [] false Rows.fnMaybeCompatibleTableRow.laid)
      (fun F => ((OpenSpec.ofChange Rows.fnMaybeCompatibleTableSpec).at F).post enc Tryr.prog Tryr.f3 false true false false) (aloneAtReturn Tryr.prog) nothingAlways := by
  refine returnsInTold_of_row (C := Tryr.checked) (s := OpenSpec.ofChange Rows.fnMaybeCompatibleTableSpec) (by kernel_rfl) own started (by kernel_rfl) Tryr.func3 (witness_of (C := Tryr.checked) false _ _ (World.laidAll_os _ _ _) (w_sh os) (w_ok os) (w_row enc os)) ?_
  intro F W base args ds gs before _ hF hval0 hW _ _ _ hL _
  have hval : ∀ (j : Nat) t v, Tryr.f3.params[j]? = some t → args[j]? = some v → Value.okWide Tryr.prog W .any base t v := hval0
  have hW' := hW
  obtain ⟨p, q, hA0, hV, rfl, _, _⟩ := hW
  have hA : DataW.TrodAll enc Tryr.prog W 0 (fun _ => true) true Tryr.f3.params.toList args.toList ds p := hA0
  rw [Tryr.params3] at hA hval
  obtain ⟨v0, v1, v2, d0, d1, d2, p0, p1, p2, rfl, rfl, rfl, h0, h1, h2⟩ := trodAll_three hA
  obtain ⟨a, rfl, rfl, rfl, wa⟩ := open_int Tryr.underlying5 (hval 0 5 v0 rfl rfl) h0
  obtain ⟨b, rfl, rfl, rfl, wb⟩ := open_int Tryr.underlying5 (hval 1 5 v1 rfl rfl) h1
  obtain ⟨a0, len, cap, rfl⟩ := okWide_slice Tryr.underlying35 (hval 2 35 v2 rfl rfl)
  have h2k := h2
  obtain ⟨fuel, hf⟩ := h2
  obtain ⟨rfl, rfl⟩ := trodVars_none hV
  have ha : 0 ≤ a ∧ a ≤ 255 := by simpa [Lit.wf, IntKind.min, IntKind.max, IntKind.signed, IntKind.bits] using wa
  have hb : 0 ≤ b ∧ b ≤ 255 := by simpa [Lit.wf, IntKind.min, IntKind.max, IntKind.signed, IntKind.bits] using wb
  have hlt : ∀ x ∈ p2, x.block < W.heap.size := fun x hx => by simpa using hW'.lt x (by simp [hx])
  have fin : ∀ {e : Ending} {W' : World}, e = .returned (.bool true) ∧ Below W.heap.size W W' → ∃ v, e = Ending.returned v ∧ ((OpenSpec.ofChange Rows.fnMaybeCompatibleTableSpec).at F).post enc Tryr.checked.prog Tryr.f3 false true false false W #[.int .u8 a, .int .u8 b, .slice a0 len cap] v W' := by
    rintro e W' ⟨he, hb⟩
    subst he
    exact ⟨_, rfl, _, _, _, [], _, _, hW', trodAll_mk1 (shut_bool Tryr.underlying4 _), trodAll_mk3 (shut_int Tryr.underlying5 wa) (shut_int Tryr.underlying5 wb) (Below.trod laidOut (by kernel_rfl) (of_decide_eq_true (by kernel_rfl)) h2k hb hlt), rfl, hb.frame _, fun h => by cases h⟩
  by_cases hn : len ≤ 65536
  · rcases open_ints Tryr.underlying35 Tryr.underlying5 cells5 hf with ⟨hcs, _⟩ | ⟨a', len', cap', zs, hcs, _, hl, hm, hz, _, hcell, hwz⟩
    · simp [Value.cells] at hcs
      obtain ⟨rfl, rfl, rfl⟩ := hcs
      exact (law8 a b ha hb none 0 0 0 [] (.inl rfl) (by simp) (by simp) W (fun h => absurd rfl h) (fun j hj => absurd hj (Nat.not_lt_zero _))).mono fun e W' h => fin h
    · simp [Value.cells] at hcs
      obtain ⟨rfl, rfl, rfl⟩ := hcs
      simp only [if_true] at hz
      have hlz : (zs.take len).length = len := by simp; omega
      have hy : ∀ y ∈ zs.take len, 0 ≤ y ∧ y ≤ 255 := fun z hzm => by
        have := hwz z (List.mem_of_mem_take hzm)
        simpa [Lit.wf, IntKind.min, IntKind.max, IntKind.signed, IntKind.bits] using this
      obtain ⟨b0, off, spot⟩ := a'
      rcases Nat.eq_zero_or_pos len with h0 | h0
      · subst h0
        have key := law8 a b ha hb (some ⟨b0, off, spot⟩) 0 0 cap [] (.inl rfl) (by simp) (by simp) W (fun h => absurd rfl h) (fun j hj => absurd hj (Nat.not_lt_zero _))
        exact key.mono fun e W' h => fin h
      · have hspot : spot = none := by simpa [Addr.add] using World.cell?_spot (hcell 0 (by omega))
        subst hspot
        have hbW : b0 < W.heap.size := World.block_lt_of_cell? W _ (by have := hcell 0 (by omega); simpa [Addr.add] using this)
        have key := law8 a b ha hb (some ⟨b0, off, none⟩) b0 off cap (zs.take len) (.inr rfl) hy (by omega) W (fun _ => hbW) (fun j hj => by
          rw [hlz] at hj
          have e : (⟨b0, off + j, none⟩ : Addr) = (⟨b0, off, none⟩ : Addr).add j := by by_cases hj0 : j = 0 <;> simp [Addr.add, hj0]
          rw [e, hcell j (by omega)]
          simp [List.getD_eq_getElem?_getD, hj])
        rw [hlz] at key
        exact key.mono fun e W' h => fin h
  · exact (law8_big a b a0 len cap (by omega) W).mono fun e W' h => fin h
end Go.Proofs.YthlmcnlkmgeohaaReflFmt.row8
