/-
For every []int64 xs (of at most 131072 elements, the law's own bound) a ConstantNode holding xs prints as the bracketed list of the decimals, null where xs is nil, and a ConstantNode holding nothing prints as nil. Conditions: the listed package-level variables read as the program's text lays them (the card ties them); the cut bears the words reflectrows, leanrows.
-/
import Derived.Test.YtddimfehmmnaeaaReflDoorWalkD
import Derived.Test.YtddimfehmmnaeaaReflDoorFactsB
import Derived.Test.YtddimfehmmnaeaaReflDoorCards
import Derived.Test.YtddimfehmmnaeaaReflDoorTie
import Derived.Lib.LaidTab
import Derived.Lay
import Derived.OpenVars
import Derived.Stop.LaidErr
import Derived.SevenTiedAt
namespace Go.Proofs.YtddimfehmmnaeaaReflDoor.row4
open Go Go.Proofs Go.RowKit Go.ChangeShapes Go.WideShapes Go.ChangeAt
open Go.Proofs.YtddimfehmmnaeaaReflDoor.ext Go.Proofs.YtddimfehmmnaeaaReflDoor.walk Go.Proofs.YtddimfehmmnaeaaReflDoor.ext4
set_option maxRecDepth 100000
theorem own : ownKnob Tryr.prog.godebug = none := by kernel_rfl
theorem tab_of {W : World} (h : laidMet Tryr.prog Rows.fnConstantNodeStringInt64SliceExactRow.laid W) : Lib.TabIs Tryr.prog W "internal/strconv.uint64pow10" .u64 Lib.pow10Tab :=
  Lib.tabIs_of_head (g := 2) (t := 131) (e := 33) (n := 20) (by kernel_rfl) (by kernel_rfl) Tryr.underlying131 Tryr.underlying33 (by kernel_rfl) (by kernel_rfl) (show laidMet Tryr.prog (("internal/strconv.uint64pow10", Lib.tabData .u64 Lib.pow10Tab) :: _) W from h.tail.tail.tail)
theorem cells2 : Tryr.prog.cellsOf 2 = 1 := by kernel_rfl
theorem laidOut : laidOutB Tryr.prog = true := facts.closed3.1

theorem lifted (os : Os) (started : os.Started) (H : Type) (enc : TypeId × Value → H) :
    ReturnsInHanded {} Tryr.checked os 4 .any (fun w args => (Rows.fnConstantNodeStringInt64SliceExactSpec.pre enc Tryr.prog Tryr.f4 [] false w args ∧ laidMetH Tryr.prog Rows.fnConstantNodeStringInt64SliceExactRow.laid w) ∧ sizedMet enc Tryr.prog Tryr.f4 (OpenSpec.ofChange Rows.fnConstantNodeStringInt64SliceExactSpec) false w args)
      (Rows.fnConstantNodeStringInt64SliceExactSpec.post enc Tryr.prog Tryr.f4 false true false false) := by
  refine returnsInHanded_of_change_and (C := Tryr.checked) (X := fun w _ => laidMetH Tryr.prog Rows.fnConstantNodeStringInt64SliceExactRow.laid w) (fun _ _ _ hh h => h.of_heap hh) own started (by kernel_rfl) Tryr.func4
    (ChangeSpec.witness_shaped (enc := enc) (C := Tryr.checked) (os := os) (X := fun w _ => laidMetH Tryr.prog Rows.fnConstantNodeStringInt64SliceExactRow.laid w) false (World.laidAll Tryr.prog os Rows.fnConstantNodeStringInt64SliceExactRow.laid) #[.slice none 0 0] 8 (World.laidAll_os _ _ _)
      (World.shaped_of_ZipB (by kernel_rfl) (by kernel_rfl)) (by kernel_rfl) (by kernel_rfl) (by kernel_rfl)
      (by rw [MakeChecks.laidMetH_plain _ _ _ (by kernel_rfl)]; exact laidMet_laidAll _ (by kernel_rfl) (by kernel_rfl))) ?_
  intro W base args ds gs before hval0 hW _ _ hL _
  have hval : ∀ (j : Nat) t v, Tryr.f4.params[j]? = some t → args[j]? = some v → Value.okWide Tryr.prog W .any base t v := hval0
  have hW' := hW
  obtain ⟨p, q, hA0, hV, rfl, _, _⟩ := hW
  have hA : DataW.TrodAll enc Tryr.prog W 0 (fun _ => true) true Tryr.f4.params.toList args.toList ds p := hA0
  rw [Tryr.params4] at hA hval
  obtain ⟨v0, d0, rfl, rfl, h0⟩ := trodAll_one hA
  obtain ⟨a0, len, cap, rfl⟩ := okWide_slice Tryr.underlying53 (hval 0 53 v0 rfl rfl)
  have h0k := h0
  obtain ⟨fuel, hf⟩ := h0
  rw [MakeChecks.laidMetH_plain _ _ _ (by kernel_rfl)] at hL
  have hT := tab_of hL
  obtain ⟨g1, rfl⟩ : ∃ g1, gs = [g1] := by
    match gs, hV with
    | [g1], _ => exact ⟨g1, rfl⟩
    | [], h => exact h.elim
    | _ :: _ :: _, ⟨_, _, _, _, _, _, _, _, _, _, h, _⟩ => exact h.elim
  have hlt : ∀ x ∈ p, x.block < W.heap.size := fun x hx => by simpa using hW'.lt x (List.mem_append_left _ hx)
  have fin : ∀ {e : Ending} {W' : World}, e = .returned (.bool true) ∧ Below W.heap.size W W' → ∃ v, e = Ending.returned v ∧ Rows.fnConstantNodeStringInt64SliceExactSpec.post enc Tryr.checked.prog Tryr.f4 false true false false W #[.slice a0 len cap] v W' := by
    rintro e W' ⟨he, hb⟩
    subst he
    exact ⟨_, rfl, _, _, _, [], _, _, hW', trodAll_mk1 (shut_bool Tryr.underlying4 _), trodAll_mk1 (Below.trod laidOut (by kernel_rfl) (of_decide_eq_true (by kernel_rfl)) h0k hb hlt), hb.trodVars laidOut (by kernel_rfl) hV, hb.frame _, fun h => by cases h⟩
  have hI : ItoaC := fun n w a b => itoa_all n w a b
  rcases open_ints Tryr.underlying53 Tryr.underlying2 cells2 hf with ⟨hcs, _⟩ | ⟨a, len', cap', zs, hcs, _, hl, hm, hz, _, hcell, hwz⟩
  · simp [Value.cells] at hcs
    obtain ⟨rfl, rfl, rfl⟩ := hcs
    exact (law_nil W).mono fun e W' h => fin h
  · simp [Value.cells] at hcs
    obtain ⟨rfl, rfl, rfl⟩ := hcs
    simp only [if_true] at hz
    have hlz : (zs.take len).length = len := by simp; omega
    have hwf : ∀ z ∈ zs.take len, -9223372036854775808 ≤ z ∧ z ≤ 9223372036854775807 := fun z hzm => by
      have := hwz z (List.mem_of_mem_take hzm)
      simpa [Lit.wf, IntKind.min, IntKind.max, IntKind.signed, IntKind.bits] using this
    have hbig : ((zs.take len).length : Int) ≤ 9223372036854775807 := by rw [hlz]; unfold maxLen at hm; omega
    have key := law_some ai hI (some a) cap (zs.take len) hwf hbig W (Lib.tabBelow_of_tabIs hT)
    rw [hlz] at key
    refine (key fun hn1 => ?_).mono fun e W' h => fin h
    rcases Nat.eq_zero_or_pos len with h0 | h0
    · subst h0
      refine (clone_empty a cap W).mono fun e W' => ?_
      rintro ⟨g, he, hg, hg2, hb⟩
      exact ⟨g, he, hg, hg2, fun j hj => by omega, hb⟩
    · obtain ⟨b, off, spot⟩ := a
      have hspot : spot = none := by simpa [Addr.add] using World.cell?_spot (hcell 0 (by omega))
      subst hspot
      have hbW : b < W.heap.size := World.block_lt_of_cell? W _ (by have := hcell 0 (by omega); simpa [Addr.add] using this)
      have kc := clone_some b off cap (zs.take len) (by omega) W hbW (fun j hj => by
        rw [hlz] at hj
        rw [← add_plain, hcell j (by omega)]
        simp [List.getD_eq_getElem?_getD, hj])
      rw [hlz] at kc
      exact kc

theorem said : Rows.FnConstantNodeStringInt64SliceExactSaid :=
  OpenClaim.holds_of_wide 4 Tryr.f4 rfl rfl rfl rfl rfl rfl rfl ⟨rfl, rfl, rfl, rfl, rfl⟩ rfl rfl rfl rfl rfl (by kernel_rfl) Tryr.func4 factsB.joined
    (of_decide_eq_true (by kernel_rfl)) (by unfold Func.isWrapper; rw [if_neg (by decide +kernel)]; exact ⟨rfl, rfl⟩)
    (fun os started H enc _ => lifted os started H enc)
theorem plain (f : FuncId) (fn : Func) (hf : Tryr.pinned.checked.prog.funcNamed "github.com/expr-lang/expr/n003_62.FnConstantNodeStringInt64SliceExact" = some f) (hfn : Tryr.pinned.checked.prog.funcs[f]? = some fn) :
    true = Tryr.pinned.checked.prog.looks [] ∧ ∀ (j : Nat) t, fn.params[j]? = some t → Tryr.pinned.checked.prog.wantsStandIn t = false := by
  obtain rfl : f = 4 := Option.some.inj ((show Tryr.prog.funcNamed "github.com/expr-lang/expr/n003_62.FnConstantNodeStringInt64SliceExact" = some 4 by kernel_rfl).symm.trans hf) |>.symm
  obtain rfl : fn = Tryr.f4 := (Option.some.inj (Tryr.func4.symm.trans hfn)).symm
  refine ⟨by kernel_rfl, fun j t ht => ?_⟩
  rw [Tryr.params4] at ht
  obtain rfl : t = 53 := by simpa using Array.mem_of_getElem? ht
  exact (show Tryr.prog.wantsStandIn 53 = false by kernel_rfl)
theorem card : Rows.FnConstantNodeStringInt64SliceExactCardSaid :=
  Claim7.holds_tied_plain_at .later [] _ _ _ _ said (fun _ h => by cases h) (by kernel_rfl) (fun _ h => by cases h) fnConstantNodeStringInt64SliceExact_row_tie rfl ⟨rfl, rfl⟩ (by kernel_rfl) rfl plain (by kernel_rfl)
#print axioms card
end Go.Proofs.YtddimfehmmnaeaaReflDoor.row4
