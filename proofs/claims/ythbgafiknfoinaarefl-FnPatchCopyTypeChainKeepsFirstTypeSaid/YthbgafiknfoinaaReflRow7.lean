/-
Replacing a node by a second and by a third one in the same slot keeps the first one's type. No condition; the cut bears the words reflectrows, leanrows.
-/
import Derived.Test.YthbgafiknfoinaaReflLaw7
import Derived.Test.YthbgafiknfoinaaReflFacts7
import Derived.ChangeMaps5
namespace Go.Proofs.YthbgafiknfoinaaRefl.row7
open Go Go.Proofs Go.RowKit Go.ChangeShapes Go.WideShapes Go.ChangeAt Go.ChangeMaps
open Go.Proofs.YthbgafiknfoinaaRefl.opt
set_option maxRecDepth 100000
theorem own : ownKnob Tryr.prog.godebug = none := by kernel_rfl
theorem laidOut : laidOutB Tryr.prog = true := facts.closed3.1
section
variable {H : Type} {enc : TypeId × Value → H} {P : Program} {w : World} {base : Nat} {spare : Nat → Bool} {held : Bool}
theorem trodAll_eight {t0 t1 t2 t3 t4 t5 t6 t7 : TypeId} {args : Array Value} {ds : List (DataW H)} {ps : List MemPlace} (h : DataW.TrodAll enc P w base spare held [t0, t1, t2, t3, t4, t5, t6, t7] args.toList ds ps) :
    ∃ v0 v1 v2 v3 v4 v5 v6 v7 d0 d1 d2 d3 d4 d5 d6 d7 p0 p1 p2 p3 p4 p5 p6 p7, args = #[v0, v1, v2, v3, v4, v5, v6, v7] ∧ ds = [d0, d1, d2, d3, d4, d5, d6, d7] ∧ ps = p0 ++ (p1 ++ (p2 ++ (p3 ++ (p4 ++ (p5 ++ (p6 ++ p7)))))) ∧
      DataW.Trod enc P w base spare held t0 v0 d0 p0 ∧ DataW.Trod enc P w base spare held t1 v1 d1 p1 ∧ DataW.Trod enc P w base spare held t2 v2 d2 p2 ∧ DataW.Trod enc P w base spare held t3 v3 d3 p3 ∧
      DataW.Trod enc P w base spare held t4 v4 d4 p4 ∧ DataW.Trod enc P w base spare held t5 v5 d5 p5 ∧ DataW.Trod enc P w base spare held t6 v6 d6 p6 ∧ DataW.Trod enc P w base spare held t7 v7 d7 p7 := by
  obtain ⟨v0, vs0, d0, ds0, p0, q0, hargs, rfl, rfl, h0, r0⟩ := trodAll_cons h
  obtain ⟨v1, vs1, d1, ds1, p1, q1, rfl, rfl, rfl, h1, r1⟩ := trodAll_cons r0
  obtain ⟨v2, vs2, d2, ds2, p2, q2, rfl, rfl, rfl, h2, r2⟩ := trodAll_cons r1
  obtain ⟨v3, vs3, d3, ds3, p3, q3, rfl, rfl, rfl, h3, r3⟩ := trodAll_cons r2
  obtain ⟨v4, vs4, d4, ds4, p4, q4, rfl, rfl, rfl, h4, r4⟩ := trodAll_cons r3
  obtain ⟨v5, vs5, d5, ds5, p5, q5, rfl, rfl, rfl, h5, r5⟩ := trodAll_cons r4
  obtain ⟨v6, vs6, d6, ds6, p6, q6, rfl, rfl, rfl, h6, r6⟩ := trodAll_cons r5
  obtain ⟨v7, vs7, d7, ds7, p7, q7, rfl, rfl, rfl, h7, r7⟩ := trodAll_cons r6
  obtain ⟨rfl, rfl, rfl⟩ := trodAll_nil r7
  exact ⟨v0, v1, v2, v3, v4, v5, v6, v7, d0, d1, d2, d3, d4, d5, d6, d7, p0, p1, p2, p3, p4, p5, p6, p7, by cases args; simp_all, rfl, by simp, h0, h1, h2, h3, h4, h5, h6, h7⟩
theorem trodAll_mk8 {t0 t1 t2 t3 t4 t5 t6 t7 : TypeId} {v0 v1 v2 v3 v4 v5 v6 v7 : Value} {d0 d1 d2 d3 d4 d5 d6 d7 : DataW H} {p0 p1 p2 p3 p4 p5 p6 p7 : List MemPlace}
    (h0 : DataW.Trod enc P w base spare held t0 v0 d0 p0) (h1 : DataW.Trod enc P w base spare held t1 v1 d1 p1) (h2 : DataW.Trod enc P w base spare held t2 v2 d2 p2) (h3 : DataW.Trod enc P w base spare held t3 v3 d3 p3)
    (h4 : DataW.Trod enc P w base spare held t4 v4 d4 p4) (h5 : DataW.Trod enc P w base spare held t5 v5 d5 p5) (h6 : DataW.Trod enc P w base spare held t6 v6 d6 p6) (h7 : DataW.Trod enc P w base spare held t7 v7 d7 p7) :
    DataW.TrodAll enc P w base spare held [t0, t1, t2, t3, t4, t5, t6, t7] [v0, v1, v2, v3, v4, v5, v6, v7] [d0, d1, d2, d3, d4, d5, d6, d7] (p0 ++ (p1 ++ (p2 ++ (p3 ++ (p4 ++ (p5 ++ (p6 ++ p7))))))) :=
  ⟨p0, _, h0, ⟨p1, _, h1, ⟨p2, _, h2, ⟨p3, _, h3, trodAll_mk4 h4 h5 h6 h7, rfl⟩, rfl⟩, rfl⟩, rfl⟩
end
theorem lifted (os : Os) (started : os.Started) (H : Type) (enc : TypeId × Value → H) :
    ReturnsInHanded {} Tryr.checked os 3 .any (Rows.fnPatchCopyTypeChainKeepsFirstTypeSpec.pre6 enc Tryr.prog Tryr.f3 Rows.fnPatchCopyTypeChainKeepsFirstTypeRow.domain false) (Rows.fnPatchCopyTypeChainKeepsFirstTypeSpec.post enc Tryr.prog Tryr.f3 false true false false) := by
  refine returnsInHanded_of_change (C := Tryr.checked) own started (by kernel_rfl) Tryr.func3
    (ChangeSpec.witness6 (enc := enc) (C := Tryr.checked) false ⟨#[], #[.int .i64 0, .int .i64 0, .int .i64 0, .int .i64 0, .int .i64 0, .int .i64 0, .int .i64 0, .string ⟨#[]⟩], []⟩ 8 (by kernel_rfl) (by kernel_rfl) (by kernel_rfl) (by kernel_rfl)) ?_
  intro W base args ds gs before hval0 hW hcnd _
  have hval : ∀ (j : Nat) t v, Tryr.f3.params[j]? = some t → args[j]? = some v → Value.okWide Tryr.prog W .any base t v := hval0
  have hW' := hW
  obtain ⟨p, q, hA0, hV, rfl, _, _⟩ := hW
  have hA : DataW.TrodAll enc Tryr.prog W 0 (fun _ => true) true Tryr.f3.params.toList args.toList ds p := hA0
  rw [Tryr.params3] at hA hval
  obtain ⟨v0, v1, v2, v3, v4, v5, v6, v7, d0, d1, d2, d3, d4, d5, d6, d7, p0, p1, p2, p3, p4, p5, p6, p7, rfl, rfl, rfl, h0, h1, h2, h3, h4, h5, h6, h7⟩ := trodAll_eight hA
  obtain ⟨a0, rfl, rfl, rfl, w0⟩ := open_int Tryr.underlying3 (hval 0 3 v0 rfl rfl) h0
  obtain ⟨a1, rfl, rfl, rfl, w1⟩ := open_int Tryr.underlying3 (hval 1 3 v1 rfl rfl) h1
  obtain ⟨a2, rfl, rfl, rfl, w2⟩ := open_int Tryr.underlying3 (hval 2 3 v2 rfl rfl) h2
  obtain ⟨a3, rfl, rfl, rfl, w3⟩ := open_int Tryr.underlying3 (hval 3 3 v3 rfl rfl) h3
  obtain ⟨a4, rfl, rfl, rfl, w4⟩ := open_int Tryr.underlying3 (hval 4 3 v4 rfl rfl) h4
  obtain ⟨a5, rfl, rfl, rfl, w5⟩ := open_int Tryr.underlying3 (hval 5 3 v5 rfl rfl) h5
  obtain ⟨a6, rfl, rfl, rfl, w6⟩ := open_int Tryr.underlying3 (hval 6 3 v6 rfl rfl) h6
  obtain ⟨s, rfl, rfl, rfl, ws⟩ := open_string Tryr.underlying9 (hval 7 9 v7 rfl rfl) h7
  obtain ⟨rfl, rfl⟩ := trodVars_none hV
  refine (law7 a0 a1 a2 a3 a4 a5 a6 s W).mono fun e W' ⟨he, hb⟩ => ?_
  subst he
  exact ⟨_, rfl, _, _, _, [], _, _, hW', trodAll_mk1 (shut_bool Tryr.underlying4 _), trodAll_mk8 (shut_int Tryr.underlying3 w0) (shut_int Tryr.underlying3 w1) (shut_int Tryr.underlying3 w2) (shut_int Tryr.underlying3 w3) (shut_int Tryr.underlying3 w4) (shut_int Tryr.underlying3 w5) (shut_int Tryr.underlying3 w6) (shut_string Tryr.underlying9 ws), rfl, hb.frame _, fun h => by cases h⟩
theorem holds : Rows.FnPatchCopyTypeChainKeepsFirstTypeSaid :=
  OpenClaim.holds_of_wide 3 Tryr.f3 rfl rfl rfl rfl rfl rfl rfl ⟨rfl, rfl, rfl, rfl, rfl⟩ rfl rfl rfl rfl rfl (by kernel_rfl) Tryr.func3 facts.joined
    (of_decide_eq_true (by kernel_rfl)) (by unfold Func.isWrapper; rw [if_neg (by decide +kernel)]; exact ⟨rfl, rfl⟩)
    (fun os started H enc _ => lifted os started H enc)
#print axioms holds
end Go.Proofs.YthbgafiknfoinaaRefl.row7
