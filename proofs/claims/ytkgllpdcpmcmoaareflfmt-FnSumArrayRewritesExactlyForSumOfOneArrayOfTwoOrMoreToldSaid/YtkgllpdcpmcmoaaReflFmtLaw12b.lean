/-
Row 12: the law's walk, some of its cases. No condition.
-/
import Derived.Test.YtkgllpdcpmcmoaaReflFmtLaw12h
namespace Go.Proofs.YtkgllpdcpmcmoaaReflFmt.opt
open Go Go.Proofs Go.RowKit
set_option maxRecDepth 100000
set_option maxHeartbeats 40000000
theorem law12_sum_false_nil (w : World) :
    Calls Tryr.prog 3 #[.int .i64 0, .slice Option.none 0 0, .bool false] w fun e w' => e = .returned (.bool true) ∧ Below w.heap.size w w' := by
  have hb1 : (!decide ((1048576 : Int) < ((0 : Nat) : Int))) = true := by simp
  have hs1 : ¬ ((4096 : Int) < 0) := by omega
  have qT : ∀ (w : World) (a : Option Addr) (n c n' c' : Nat), (Go.binOp .neq 36 (.slice a n c) (.slice none n' c')).run Tryr.prog w = .ok (.bool (!a.isNone)) w := fun w a n c n' c' => run_neq_slice_nil_any w _ _ a n c n' c' Tryr.underlying36
  go_enter Tryr.func3, Tryr.ntmps3
  go_wp2_with fail
  refine (bytes12 _ _ _ _ _ _).mono ?_
  rintro e w0 ⟨rfl, rfl⟩
  rw [hb1]
  go_wp2_with fail
  refine (buildSum ⟨#[115, 117, 109]⟩ 2 (by decide) Option.none 0 0 0 [] (.inl rfl) (by simp) w0 (fun h => absurd rfl h) (fun j hj => absurd hj (Nat.not_lt_zero _))).mono ?_
  rintro e w3 ⟨rt, sm, ar, ag, ca, e0, rfl, hS0, o1, o2, o3, o4, o5, o6, q3⟩
  have hS : SumAt w3 ⟨#[115, 117, 109]⟩ 2 rt sm ar ag 1 ca e0 [] := hS0
  have hS4 := hS.keep ((But.refl (fun _ => False) w3).alloc (.cells #[(.pointer (some ⟨rt, 0, none⟩)), (.iface 76 (.pointer (some ⟨sm, 0, none⟩))), (.iface 73 (.pointer (some ⟨ar, 0, none⟩))), .slice (some ⟨e0, 0, none⟩) 0 0] 43)) (fun _ h => h.elim)
  have hcv := h_new w3 (.cells #[(.pointer (some ⟨rt, 0, none⟩)), (.iface 76 (.pointer (some ⟨sm, 0, none⟩))), (.iface 73 (.pointer (some ⟨ar, 0, none⟩))), .slice (some ⟨e0, 0, none⟩) 0 0] 43)
  have B4 := (q3.below (B := w0.heap.size) (Nat.le_refl _) (fun _ h => h.elim)).alloc q3.size (.cells #[(.pointer (some ⟨rt, 0, none⟩)), (.iface 76 (.pointer (some ⟨sm, 0, none⟩))), (.iface 73 (.pointer (some ⟨ar, 0, none⟩))), .slice (some ⟨e0, 0, none⟩) 0 0] 43)
  have lrt := lt_of hS.root
  clear hS0 hS
  have cv0 : (w3.alloc (.cells #[(.pointer (some ⟨rt, 0, none⟩)), (.iface 76 (.pointer (some ⟨sm, 0, none⟩))), (.iface 73 (.pointer (some ⟨ar, 0, none⟩))), .slice (some ⟨e0, 0, none⟩) 0 0] 43)).cell? ⟨w3.heap.size, 0, none⟩ = some (.pointer (some ⟨rt, 0, none⟩)) := cell_of hcv rfl
  go_wp2_with fail
  refine (zzVisit rt sm ar e0 [] _ (fun w' => But (fun k => k = rt) (w3.alloc (.cells #[(.pointer (some ⟨rt, 0, none⟩)), (.iface 76 (.pointer (some ⟨sm, 0, none⟩))), (.iface 73 (.pointer (some ⟨ar, 0, none⟩))), .slice (some ⟨e0, 0, none⟩) 0 0] 43)) w' ∧ w'.heap[rt]? = some (.cells #[(.iface 76 (.pointer (some ⟨sm, 0, none⟩)))] 40 (0, 0))) (fun x w1 q1 => ?_)).mono ?_
  · refine (visit_short x 2 rt sm ar ag ca e0 [] w1 (hS4.keep q1 (fun _ h => h.elim)) (by simp)).mono ?_
    rintro e w' ⟨rfl, rfl⟩
    exact ⟨rfl, q1.mono (fun _ h => h.elim), q1.keep id hS4.root⟩
  rintro e w5 ⟨rfl, q5, hrt⟩
  have harr5 := q5.keep (by omega) hS4.arr
  have hsum5 := q5.keep (by omega) hS4.sum
  have hargs5 := (World.cell?_of_block (w := w3.alloc (.cells #[(.pointer (some ⟨rt, 0, none⟩)), (.iface 76 (.pointer (some ⟨sm, 0, none⟩))), (.iface 73 (.pointer (some ⟨ar, 0, none⟩))), .slice (some ⟨e0, 0, none⟩) 0 0] 43)) (q5.block ag (by omega) (World.block_lt_of_cell? _ _ hS4.args))).trans hS4.args
  have hn0 : ¬ ((2 : Int) ≤ 0) := by omega
  have hcv5 := q5.keep (by omega) hcv
  have hels5 : ∀ i, i < 0 → w5.cell? ⟨e0, i, none⟩ = some (.iface 59 (.pointer (some ⟨(e0 + 1) + i, 0, none⟩))) := fun i hi => (World.cell?_of_block (w := w3.alloc (.cells #[(.pointer (some ⟨rt, 0, none⟩)), (.iface 76 (.pointer (some ⟨sm, 0, none⟩))), (.iface 73 (.pointer (some ⟨ar, 0, none⟩))), .slice (some ⟨e0, 0, none⟩) 0 0] 43)) (q5.block e0 (by omega) (World.block_lt_of_cell? _ _ (hS4.els i hi)))).trans (hS4.els i hi)
  have B5 := B4.trans (q5.below (B := w0.heap.size) B4.size (by intro k hk; omega))
  have s5 := q5.size
  rw [World.size_alloc] at s5
  clear hcv B4 q5 cv0
  clear hS4
  have cv0 : w5.cell? ⟨w3.heap.size, 0, none⟩ = some (.pointer (some ⟨rt, 0, none⟩)) := cell_of (hcv5) rfl
  have cv1 : w5.cell? ⟨w3.heap.size, 1, none⟩ = some (.iface 76 (.pointer (some ⟨sm, 0, none⟩))) := cell_of (hcv5) rfl
  have cv2 : w5.cell? ⟨w3.heap.size, 2, none⟩ = some (.iface 73 (.pointer (some ⟨ar, 0, none⟩))) := cell_of (hcv5) rfl
  have cv3 : w5.cell? ⟨w3.heap.size, 3, none⟩ = some (.slice (some ⟨e0, 0, none⟩) 0 0) := cell_of (hcv5) rfl
  go_wp2_with fail
  refine (sumRoot rt sm ar e0 0 76 sm _ hrt).mono ?_
  clear cv0 cv1 cv2 cv3
  rintro e w6 ⟨rfl, R6⟩
  have R6a := R6.alloc (.cells #[(.iface 76 (.pointer (some ⟨sm, 0, none⟩)))] 47)
  have s6 := R6.size
  have lc6 : w3.heap.size < w6.heap.size := by omega
  have cv0 : w6.cell? ⟨w3.heap.size, 0, none⟩ = some (.pointer (some ⟨rt, 0, none⟩)) := cell_of (R6.keep id hcv5) rfl
  have cv1 : w6.cell? ⟨w3.heap.size, 1, none⟩ = some (.iface 76 (.pointer (some ⟨sm, 0, none⟩))) := cell_of (R6.keep id hcv5) rfl
  have cv2 : w6.cell? ⟨w3.heap.size, 2, none⟩ = some (.iface 73 (.pointer (some ⟨ar, 0, none⟩))) := cell_of (R6.keep id hcv5) rfl
  have cv3 : w6.cell? ⟨w3.heap.size, 3, none⟩ = some (.slice (some ⟨e0, 0, none⟩) 0 0) := cell_of (R6.keep id hcv5) rfl
  go_wp2_with fail
  refine (sumArr rt sm ar e0 0 _).mono ?_
  clear cv0 cv1 cv2 cv3
  rintro e w7 ⟨rfl, q7⟩
  have R7 := R6a.trans q7
  have hvr7 := q7.keep id (h_new w6 (.cells #[(.iface 76 (.pointer (some ⟨sm, 0, none⟩)))] 47))
  have s7 := R7.size
  have s67 := q7.size
  rw [World.size_alloc] at s67
  have R7a := R7.alloc (.cells #[(.iface 73 (.pointer (some ⟨ar, 0, none⟩)))] 47)
  go_wp2_with fail
  refine (arrayLen ar 0 (some ⟨e0, 0, none⟩) 0 0 _ (R7a.keep id harr5)).mono ?_
  rintro e w8 ⟨rfl, q8⟩
  have R8 := R7a.trans q8
  have hva8 := q8.keep id (h_new w7 (.cells #[(.iface 73 (.pointer (some ⟨ar, 0, none⟩)))] 47))
  have hvr8 := q8.keep id (h_old (.cells #[(.iface 73 (.pointer (some ⟨ar, 0, none⟩)))] 47) hvr7)
  have s78 := q8.size
  rw [World.size_alloc] at s78
  have s8 := R8.size
  clear R6 R6a R7 R7a q7 q8 hvr7
  have hcv8 := R8.keep id hcv5
  have harr8 := R8.keep id harr5
  have hels8 : ∀ i, i < 0 → w8.cell? ⟨e0, i, none⟩ = some (.iface 59 (.pointer (some ⟨(e0 + 1) + i, 0, none⟩))) := fun i hi => (World.cell?_of_block (w := w5) (R8.block e0 id (World.block_lt_of_cell? _ _ (hels5 i hi)))).trans (hels5 i hi)
  go_wp2
  go_loopw [12] (fun vi wr => ∃ (i : Nat), i ≤ 0 ∧ vi = .int .i64 i ∧ But (fun _ => False) w8 wr) (fun vi _ => 0 - (intOf vi).toNat)
  case atStart => exact ⟨0, Nat.zero_le _, rfl, But.refl _ _⟩
  case round =>
    obtain ⟨i, hi, rfl, Q⟩ := hrel
    have sQ := Q.size
    by_cases hlt : i < 0
    · exact absurd hlt (Nat.not_lt_zero _)
    · have hi3 : ¬ ((i : Int) < 0) := by omega
      have vr9 : wr.cell? ⟨w6.heap.size, 0, none⟩ = some (.iface 76 (.pointer (some ⟨sm, 0, none⟩))) := cell_of (Q.keep id hvr8) rfl
      have lvr : w6.heap.size < wr.heap.size := by omega
      have lva : w7.heap.size < wr.heap.size := by omega
      have lvc : w3.heap.size < wr.heap.size := by omega
      have hsm9 := Q.keep id (R8.keep id hsum5)
      go_wp2_with fail
      refine (builtinName sm 2 ⟨#[115, 117, 109]⟩ _ _ _ _ _ hsm9).mono ?_
      clear vr9
      rintro e wX ⟨rfl, qX⟩
      have kX := (R8.trans Q).trans qX
      have b_vr : wX.drew.heap[w6.heap.size]? = some (.cells #[(.iface 76 (.pointer (some ⟨sm, 0, none⟩)))] 47) := qX.keep id (Q.keep id hvr8)
      have b_va : wX.drew.heap[w7.heap.size]? = some (.cells #[(.iface 73 (.pointer (some ⟨ar, 0, none⟩)))] 47) := qX.keep id (Q.keep id hva8)
      have b_c : wX.drew.heap[w3.heap.size]? = some (.cells #[(.pointer (some ⟨rt, 0, none⟩)), (.iface 76 (.pointer (some ⟨sm, 0, none⟩))), (.iface 73 (.pointer (some ⟨ar, 0, none⟩))), .slice (some ⟨e0, 0, none⟩) 0 0] 43) := qX.keep id (Q.keep id hcv8)
      have b_sm : wX.drew.heap[sm]? = some (.cells (nodeC 2 #[.string ⟨#[115, 117, 109]⟩, .slice (some ⟨ag, 0, none⟩) 1 ca, .bool false, .nilIface, .pointer none]) 79 (0, 0)) := qX.keep id hsm9
      have b_ag : wX.drew.cell? ⟨ag, 0, none⟩ = some (.iface 73 (.pointer (some ⟨ar, 0, none⟩))) := (World.cell?_of_block (w := w5) (kX.block ag id (World.block_lt_of_cell? _ _ hargs5))).trans hargs5
      have lag := World.block_lt_of_cell? _ _ b_ag
      have x_vr : wX.cell? ⟨w6.heap.size, 0, none⟩ = some (.iface 76 (.pointer (some ⟨sm, 0, none⟩))) := cell_of b_vr rfl
      have x_c0 : wX.cell? ⟨w3.heap.size, 0, none⟩ = some (.pointer (some ⟨rt, 0, none⟩)) := cell_of b_c rfl
      have x_c1 : wX.cell? ⟨w3.heap.size, 1, none⟩ = some (.iface 76 (.pointer (some ⟨sm, 0, none⟩))) := cell_of b_c rfl
      have x_c2 : wX.cell? ⟨w3.heap.size, 2, none⟩ = some (.iface 73 (.pointer (some ⟨ar, 0, none⟩))) := cell_of b_c rfl
      have x_c3 : wX.cell? ⟨w3.heap.size, 3, none⟩ = some (.slice (some ⟨e0, 0, none⟩) 0 0) := cell_of b_c rfl
      have HB : Hid _ := And.intro B5 kX
      clear B5 kX Q R8 qX hels5 hels8 harr5 harr8 hcv5 hcv8 hva8 hvr8 hargs5 hsum5 hsm9 hrt sQ s5 s6 s67 s7 s78 s8 lc6 lvr lva lvc hi3 hlt hi
      go_wp2
      have S0 : wX.drew.cell? ⟨w6.heap.size, 0, none⟩ = some (.iface 76 (.pointer (some ⟨sm, 0, none⟩))) ∧ wX.drew.cell? ⟨w7.heap.size, 0, none⟩ = some (.iface 73 (.pointer (some ⟨ar, 0, none⟩))) ∧ wX.drew.cell? ⟨w3.heap.size, 0, none⟩ = some (.pointer (some ⟨rt, 0, none⟩)) ∧ wX.drew.cell? ⟨w3.heap.size, 1, none⟩ = some (.iface 76 (.pointer (some ⟨sm, 0, none⟩))) ∧ wX.drew.cell? ⟨w3.heap.size, 2, none⟩ = some (.iface 73 (.pointer (some ⟨ar, 0, none⟩))) ∧ wX.drew.cell? ⟨w3.heap.size, 3, none⟩ = some (.slice (some ⟨e0, 0, none⟩) 0 0) := ⟨cell_of (id b_vr) rfl, cell_of (id b_va) rfl, cell_of (id b_c) rfl, cell_of (id b_c) rfl, cell_of (id b_c) rfl, cell_of (id b_c) rfl⟩
      go_region_held3 (fun w' => w'.cell? ⟨w6.heap.size, 0, none⟩ = some (.iface 76 (.pointer (some ⟨sm, 0, none⟩))) ∧ w'.cell? ⟨w7.heap.size, 0, none⟩ = some (.iface 73 (.pointer (some ⟨ar, 0, none⟩))) ∧ w'.cell? ⟨w3.heap.size, 0, none⟩ = some (.pointer (some ⟨rt, 0, none⟩)) ∧ w'.cell? ⟨w3.heap.size, 1, none⟩ = some (.iface 76 (.pointer (some ⟨sm, 0, none⟩))) ∧ w'.cell? ⟨w3.heap.size, 2, none⟩ = some (.iface 73 (.pointer (some ⟨ar, 0, none⟩))) ∧ w'.cell? ⟨w3.heap.size, 3, none⟩ = some (.slice (some ⟨e0, 0, none⟩) 0 0)) (first | exact S0 | exact S1 | exact S2 | exact S3 | exact S4 | exact S5) (first | (go_at_call 15; refine (sumNode rt sm ar e0 0 _).mono ?_; rintro e wA ⟨rfl, qA⟩; have S1 : wA.cell? ⟨w6.heap.size, 0, none⟩ = some (.iface 76 (.pointer (some ⟨sm, 0, none⟩))) ∧ wA.cell? ⟨w7.heap.size, 0, none⟩ = some (.iface 73 (.pointer (some ⟨ar, 0, none⟩))) ∧ wA.cell? ⟨w3.heap.size, 0, none⟩ = some (.pointer (some ⟨rt, 0, none⟩)) ∧ wA.cell? ⟨w3.heap.size, 1, none⟩ = some (.iface 76 (.pointer (some ⟨sm, 0, none⟩))) ∧ wA.cell? ⟨w3.heap.size, 2, none⟩ = some (.iface 73 (.pointer (some ⟨ar, 0, none⟩))) ∧ wA.cell? ⟨w3.heap.size, 3, none⟩ = some (.slice (some ⟨e0, 0, none⟩) 0 0) := ⟨cell_of (qA.keep id b_vr) rfl, cell_of (qA.keep id b_va) rfl, cell_of (qA.keep id b_c) rfl, cell_of (qA.keep id b_c) rfl, cell_of (qA.keep id b_c) rfl, cell_of (qA.keep id b_c) rfl⟩) | (go_at_call 11; refine (zzSame isPU sm _).mono ?_; rintro e wB ⟨rfl, qB⟩; have kB := qA.trans qB; have smB := kB.keep id b_sm; have S2 : wB.cell? ⟨w6.heap.size, 0, none⟩ = some (.iface 76 (.pointer (some ⟨sm, 0, none⟩))) ∧ wB.cell? ⟨w7.heap.size, 0, none⟩ = some (.iface 73 (.pointer (some ⟨ar, 0, none⟩))) ∧ wB.cell? ⟨w3.heap.size, 0, none⟩ = some (.pointer (some ⟨rt, 0, none⟩)) ∧ wB.cell? ⟨w3.heap.size, 1, none⟩ = some (.iface 76 (.pointer (some ⟨sm, 0, none⟩))) ∧ wB.cell? ⟨w3.heap.size, 2, none⟩ = some (.iface 73 (.pointer (some ⟨ar, 0, none⟩))) ∧ wB.cell? ⟨w3.heap.size, 3, none⟩ = some (.slice (some ⟨e0, 0, none⟩) 0 0) := ⟨cell_of (kB.keep id b_vr) rfl, cell_of (kB.keep id b_va) rfl, cell_of (kB.keep id b_c) rfl, cell_of (kB.keep id b_c) rfl, cell_of (kB.keep id b_c) rfl, cell_of (kB.keep id b_c) rfl⟩) | (go_at_call 16; refine (builtinArgCount sm 2 (some ⟨ag, 0, none⟩) 1 ca _ _ _ _ _ smB).mono ?_; rintro e wC ⟨rfl, qC⟩; have kC := kB.trans qC; have smC := kC.keep id b_sm; have agC := (World.cell?_of_block (kC.block ag id lag)).trans b_ag; have S3 : wC.cell? ⟨w6.heap.size, 0, none⟩ = some (.iface 76 (.pointer (some ⟨sm, 0, none⟩))) ∧ wC.cell? ⟨w7.heap.size, 0, none⟩ = some (.iface 73 (.pointer (some ⟨ar, 0, none⟩))) ∧ wC.cell? ⟨w3.heap.size, 0, none⟩ = some (.pointer (some ⟨rt, 0, none⟩)) ∧ wC.cell? ⟨w3.heap.size, 1, none⟩ = some (.iface 76 (.pointer (some ⟨sm, 0, none⟩))) ∧ wC.cell? ⟨w3.heap.size, 2, none⟩ = some (.iface 73 (.pointer (some ⟨ar, 0, none⟩))) ∧ wC.cell? ⟨w3.heap.size, 3, none⟩ = some (.slice (some ⟨e0, 0, none⟩) 0 0) := ⟨cell_of (kC.keep id b_vr) rfl, cell_of (kC.keep id b_va) rfl, cell_of (kC.keep id b_c) rfl, cell_of (kC.keep id b_c) rfl, cell_of (kC.keep id b_c) rfl, cell_of (kC.keep id b_c) rfl⟩) | (go_at_call 17; refine (builtinArg0 sm 2 ag 1 ca 73 ar _ _ _ _ (by decide) _ smC agC).mono ?_; rintro e wD ⟨rfl, qD⟩; have kD := kC.trans qD; have S4 : wD.cell? ⟨w6.heap.size, 0, none⟩ = some (.iface 76 (.pointer (some ⟨sm, 0, none⟩))) ∧ wD.cell? ⟨w7.heap.size, 0, none⟩ = some (.iface 73 (.pointer (some ⟨ar, 0, none⟩))) ∧ wD.cell? ⟨w3.heap.size, 0, none⟩ = some (.pointer (some ⟨rt, 0, none⟩)) ∧ wD.cell? ⟨w3.heap.size, 1, none⟩ = some (.iface 76 (.pointer (some ⟨sm, 0, none⟩))) ∧ wD.cell? ⟨w3.heap.size, 2, none⟩ = some (.iface 73 (.pointer (some ⟨ar, 0, none⟩))) ∧ wD.cell? ⟨w3.heap.size, 3, none⟩ = some (.slice (some ⟨e0, 0, none⟩) 0 0) := ⟨cell_of (kD.keep id b_vr) rfl, cell_of (kD.keep id b_va) rfl, cell_of (kD.keep id b_c) rfl, cell_of (kD.keep id b_c) rfl, cell_of (kD.keep id b_c) rfl, cell_of (kD.keep id b_c) rfl⟩) | (go_at_call 11; refine (zzSame isPA ar _).mono ?_; rintro e wE ⟨rfl, qE⟩; have S5 : wE.cell? ⟨w6.heap.size, 0, none⟩ = some (.iface 76 (.pointer (some ⟨sm, 0, none⟩))) ∧ wE.cell? ⟨w7.heap.size, 0, none⟩ = some (.iface 73 (.pointer (some ⟨ar, 0, none⟩))) ∧ wE.cell? ⟨w3.heap.size, 0, none⟩ = some (.pointer (some ⟨rt, 0, none⟩)) ∧ wE.cell? ⟨w3.heap.size, 1, none⟩ = some (.iface 76 (.pointer (some ⟨sm, 0, none⟩))) ∧ wE.cell? ⟨w3.heap.size, 2, none⟩ = some (.iface 73 (.pointer (some ⟨ar, 0, none⟩))) ∧ wE.cell? ⟨w3.heap.size, 3, none⟩ = some (.slice (some ⟨e0, 0, none⟩) 0 0) := ⟨cell_of ((kD.trans qE).keep id b_vr) rfl, cell_of ((kD.trans qE).keep id b_va) rfl, cell_of ((kD.trans qE).keep id b_c) rfl, cell_of ((kD.trans qE).keep id b_c) rfl, cell_of ((kD.trans qE).keep id b_c) rfl, cell_of ((kD.trans qE).keep id b_c) rfl⟩))
      all_goals
        obtain ⟨B5, kX⟩ := HB.out
        go_wp2
        go_ret
        exact ⟨rfl, B5.trans (((kX.drew.trans kD).trans qE).below (B := w0.heap.size) B5.size (fun _ h => h.elim))⟩
theorem law12_Sum_false_nil (w : World) :
    Calls Tryr.prog 3 #[.int .i64 2, .slice Option.none 0 0, .bool false] w fun e w' => e = .returned (.bool true) ∧ Below w.heap.size w w' := by
  have hb1 : (!decide ((1048576 : Int) < ((0 : Nat) : Int))) = true := by simp
  have hs1 : ¬ ((4096 : Int) < 0) := by omega
  have qT : ∀ (w : World) (a : Option Addr) (n c n' c' : Nat), (Go.binOp .neq 36 (.slice a n c) (.slice none n' c')).run Tryr.prog w = .ok (.bool (!a.isNone)) w := fun w a n c n' c' => run_neq_slice_nil_any w _ _ a n c n' c' Tryr.underlying36
  go_enter Tryr.func3, Tryr.ntmps3
  go_wp2_with fail
  refine (bytes12 _ _ _ _ _ _).mono ?_
  rintro e w0 ⟨rfl, rfl⟩
  rw [hb1]
  go_wp2_with fail
  refine (buildSum ⟨#[83, 117, 109]⟩ 2 (by decide) Option.none 0 0 0 [] (.inl rfl) (by simp) w0 (fun h => absurd rfl h) (fun j hj => absurd hj (Nat.not_lt_zero _))).mono ?_
  rintro e w3 ⟨rt, sm, ar, ag, ca, e0, rfl, hS0, o1, o2, o3, o4, o5, o6, q3⟩
  have hS : SumAt w3 ⟨#[83, 117, 109]⟩ 2 rt sm ar ag 1 ca e0 [] := hS0
  have hS4 := hS.keep ((But.refl (fun _ => False) w3).alloc (.cells #[(.pointer (some ⟨rt, 0, none⟩)), (.iface 76 (.pointer (some ⟨sm, 0, none⟩))), (.iface 73 (.pointer (some ⟨ar, 0, none⟩))), .slice (some ⟨e0, 0, none⟩) 0 0] 43)) (fun _ h => h.elim)
  have hcv := h_new w3 (.cells #[(.pointer (some ⟨rt, 0, none⟩)), (.iface 76 (.pointer (some ⟨sm, 0, none⟩))), (.iface 73 (.pointer (some ⟨ar, 0, none⟩))), .slice (some ⟨e0, 0, none⟩) 0 0] 43)
  have B4 := (q3.below (B := w0.heap.size) (Nat.le_refl _) (fun _ h => h.elim)).alloc q3.size (.cells #[(.pointer (some ⟨rt, 0, none⟩)), (.iface 76 (.pointer (some ⟨sm, 0, none⟩))), (.iface 73 (.pointer (some ⟨ar, 0, none⟩))), .slice (some ⟨e0, 0, none⟩) 0 0] 43)
  have lrt := lt_of hS.root
  clear hS0 hS
  have cv0 : (w3.alloc (.cells #[(.pointer (some ⟨rt, 0, none⟩)), (.iface 76 (.pointer (some ⟨sm, 0, none⟩))), (.iface 73 (.pointer (some ⟨ar, 0, none⟩))), .slice (some ⟨e0, 0, none⟩) 0 0] 43)).cell? ⟨w3.heap.size, 0, none⟩ = some (.pointer (some ⟨rt, 0, none⟩)) := cell_of hcv rfl
  go_wp2_with fail
  refine (zzVisit rt sm ar e0 [] _ (fun w' => But (fun k => k = rt) (w3.alloc (.cells #[(.pointer (some ⟨rt, 0, none⟩)), (.iface 76 (.pointer (some ⟨sm, 0, none⟩))), (.iface 73 (.pointer (some ⟨ar, 0, none⟩))), .slice (some ⟨e0, 0, none⟩) 0 0] 43)) w' ∧ w'.heap[rt]? = some (.cells #[(.iface 76 (.pointer (some ⟨sm, 0, none⟩)))] 40 (0, 0))) (fun x w1 q1 => ?_)).mono ?_
  · refine (visit_Sum x 2 rt sm ar ag 1 ca e0 [] w1 (hS4.keep q1 (fun _ h => h.elim))).mono ?_
    rintro e w' ⟨rfl, rfl⟩
    exact ⟨rfl, q1.mono (fun _ h => h.elim), q1.keep id hS4.root⟩
  rintro e w5 ⟨rfl, q5, hrt⟩
  have harr5 := q5.keep (by omega) hS4.arr
  have hsum5 := q5.keep (by omega) hS4.sum
  have hargs5 := (World.cell?_of_block (w := w3.alloc (.cells #[(.pointer (some ⟨rt, 0, none⟩)), (.iface 76 (.pointer (some ⟨sm, 0, none⟩))), (.iface 73 (.pointer (some ⟨ar, 0, none⟩))), .slice (some ⟨e0, 0, none⟩) 0 0] 43)) (q5.block ag (by omega) (World.block_lt_of_cell? _ _ hS4.args))).trans hS4.args
  have hcv5 := q5.keep (by omega) hcv
  have hels5 : ∀ i, i < 0 → w5.cell? ⟨e0, i, none⟩ = some (.iface 59 (.pointer (some ⟨(e0 + 1) + i, 0, none⟩))) := fun i hi => (World.cell?_of_block (w := w3.alloc (.cells #[(.pointer (some ⟨rt, 0, none⟩)), (.iface 76 (.pointer (some ⟨sm, 0, none⟩))), (.iface 73 (.pointer (some ⟨ar, 0, none⟩))), .slice (some ⟨e0, 0, none⟩) 0 0] 43)) (q5.block e0 (by omega) (World.block_lt_of_cell? _ _ (hS4.els i hi)))).trans (hS4.els i hi)
  have B5 := B4.trans (q5.below (B := w0.heap.size) B4.size (by intro k hk; omega))
  have s5 := q5.size
  rw [World.size_alloc] at s5
  clear hcv B4 q5 cv0
  clear hS4
  have cv0 : w5.cell? ⟨w3.heap.size, 0, none⟩ = some (.pointer (some ⟨rt, 0, none⟩)) := cell_of (hcv5) rfl
  have cv1 : w5.cell? ⟨w3.heap.size, 1, none⟩ = some (.iface 76 (.pointer (some ⟨sm, 0, none⟩))) := cell_of (hcv5) rfl
  have cv2 : w5.cell? ⟨w3.heap.size, 2, none⟩ = some (.iface 73 (.pointer (some ⟨ar, 0, none⟩))) := cell_of (hcv5) rfl
  have cv3 : w5.cell? ⟨w3.heap.size, 3, none⟩ = some (.slice (some ⟨e0, 0, none⟩) 0 0) := cell_of (hcv5) rfl
  go_wp2_with fail
  refine (sumRoot rt sm ar e0 0 76 sm _ hrt).mono ?_
  clear cv0 cv1 cv2 cv3
  rintro e w6 ⟨rfl, R6⟩
  have R6a := R6.alloc (.cells #[(.iface 76 (.pointer (some ⟨sm, 0, none⟩)))] 47)
  have s6 := R6.size
  have lc6 : w3.heap.size < w6.heap.size := by omega
  have cv0 : w6.cell? ⟨w3.heap.size, 0, none⟩ = some (.pointer (some ⟨rt, 0, none⟩)) := cell_of (R6.keep id hcv5) rfl
  have cv1 : w6.cell? ⟨w3.heap.size, 1, none⟩ = some (.iface 76 (.pointer (some ⟨sm, 0, none⟩))) := cell_of (R6.keep id hcv5) rfl
  have cv2 : w6.cell? ⟨w3.heap.size, 2, none⟩ = some (.iface 73 (.pointer (some ⟨ar, 0, none⟩))) := cell_of (R6.keep id hcv5) rfl
  have cv3 : w6.cell? ⟨w3.heap.size, 3, none⟩ = some (.slice (some ⟨e0, 0, none⟩) 0 0) := cell_of (R6.keep id hcv5) rfl
  go_wp2_with fail
  refine (sumArr rt sm ar e0 0 _).mono ?_
  clear cv0 cv1 cv2 cv3
  rintro e w7 ⟨rfl, q7⟩
  have R7 := R6a.trans q7
  have hvr7 := q7.keep id (h_new w6 (.cells #[(.iface 76 (.pointer (some ⟨sm, 0, none⟩)))] 47))
  have s7 := R7.size
  have s67 := q7.size
  rw [World.size_alloc] at s67
  have R7a := R7.alloc (.cells #[(.iface 73 (.pointer (some ⟨ar, 0, none⟩)))] 47)
  go_wp2_with fail
  refine (arrayLen ar 0 (some ⟨e0, 0, none⟩) 0 0 _ (R7a.keep id harr5)).mono ?_
  rintro e w8 ⟨rfl, q8⟩
  have R8 := R7a.trans q8
  have hva8 := q8.keep id (h_new w7 (.cells #[(.iface 73 (.pointer (some ⟨ar, 0, none⟩)))] 47))
  have hvr8 := q8.keep id (h_old (.cells #[(.iface 73 (.pointer (some ⟨ar, 0, none⟩)))] 47) hvr7)
  have s78 := q8.size
  rw [World.size_alloc] at s78
  have s8 := R8.size
  clear R6 R6a R7 R7a q7 q8 hvr7
  have hcv8 := R8.keep id hcv5
  have harr8 := R8.keep id harr5
  have hels8 : ∀ i, i < 0 → w8.cell? ⟨e0, i, none⟩ = some (.iface 59 (.pointer (some ⟨(e0 + 1) + i, 0, none⟩))) := fun i hi => (World.cell?_of_block (w := w5) (R8.block e0 id (World.block_lt_of_cell? _ _ (hels5 i hi)))).trans (hels5 i hi)
  go_wp2
  go_loopw [12] (fun vi wr => ∃ (i : Nat), i ≤ 0 ∧ vi = .int .i64 i ∧ But (fun _ => False) w8 wr) (fun vi _ => 0 - (intOf vi).toNat)
  case atStart => exact ⟨0, Nat.zero_le _, rfl, But.refl _ _⟩
  case round =>
    obtain ⟨i, hi, rfl, Q⟩ := hrel
    have sQ := Q.size
    by_cases hlt : i < 0
    · exact absurd hlt (Nat.not_lt_zero _)
    · have hi3 : ¬ ((i : Int) < 0) := by omega
      have vr9 : wr.cell? ⟨w6.heap.size, 0, none⟩ = some (.iface 76 (.pointer (some ⟨sm, 0, none⟩))) := cell_of (Q.keep id hvr8) rfl
      have lvr : w6.heap.size < wr.heap.size := by omega
      have lva : w7.heap.size < wr.heap.size := by omega
      have lvc : w3.heap.size < wr.heap.size := by omega
      have hsm9 := Q.keep id (R8.keep id hsum5)
      go_wp2_with fail
      refine (builtinName sm 2 ⟨#[83, 117, 109]⟩ _ _ _ _ _ hsm9).mono ?_
      clear vr9
      rintro e wX ⟨rfl, qX⟩
      have kX := (R8.trans Q).trans qX
      have b_vr : wX.drew.heap[w6.heap.size]? = some (.cells #[(.iface 76 (.pointer (some ⟨sm, 0, none⟩)))] 47) := qX.keep id (Q.keep id hvr8)
      have b_va : wX.drew.heap[w7.heap.size]? = some (.cells #[(.iface 73 (.pointer (some ⟨ar, 0, none⟩)))] 47) := qX.keep id (Q.keep id hva8)
      have b_c : wX.drew.heap[w3.heap.size]? = some (.cells #[(.pointer (some ⟨rt, 0, none⟩)), (.iface 76 (.pointer (some ⟨sm, 0, none⟩))), (.iface 73 (.pointer (some ⟨ar, 0, none⟩))), .slice (some ⟨e0, 0, none⟩) 0 0] 43) := qX.keep id (Q.keep id hcv8)
      have b_sm : wX.drew.heap[sm]? = some (.cells (nodeC 2 #[.string ⟨#[83, 117, 109]⟩, .slice (some ⟨ag, 0, none⟩) 1 ca, .bool false, .nilIface, .pointer none]) 79 (0, 0)) := qX.keep id hsm9
      have b_ag : wX.drew.cell? ⟨ag, 0, none⟩ = some (.iface 73 (.pointer (some ⟨ar, 0, none⟩))) := (World.cell?_of_block (w := w5) (kX.block ag id (World.block_lt_of_cell? _ _ hargs5))).trans hargs5
      have lag := World.block_lt_of_cell? _ _ b_ag
      have x_vr : wX.cell? ⟨w6.heap.size, 0, none⟩ = some (.iface 76 (.pointer (some ⟨sm, 0, none⟩))) := cell_of b_vr rfl
      have x_c0 : wX.cell? ⟨w3.heap.size, 0, none⟩ = some (.pointer (some ⟨rt, 0, none⟩)) := cell_of b_c rfl
      have x_c1 : wX.cell? ⟨w3.heap.size, 1, none⟩ = some (.iface 76 (.pointer (some ⟨sm, 0, none⟩))) := cell_of b_c rfl
      have x_c2 : wX.cell? ⟨w3.heap.size, 2, none⟩ = some (.iface 73 (.pointer (some ⟨ar, 0, none⟩))) := cell_of b_c rfl
      have x_c3 : wX.cell? ⟨w3.heap.size, 3, none⟩ = some (.slice (some ⟨e0, 0, none⟩) 0 0) := cell_of b_c rfl
      have HB : Hid _ := And.intro B5 kX
      clear B5 kX Q R8 qX hels5 hels8 harr5 harr8 hcv5 hcv8 hva8 hvr8 hargs5 hsum5 hsm9 hrt sQ s5 s6 s67 s7 s78 s8 lc6 lvr lva lvc hi3 hlt hi
      go_wp2
      have S0 : wX.drew.cell? ⟨w6.heap.size, 0, none⟩ = some (.iface 76 (.pointer (some ⟨sm, 0, none⟩))) ∧ wX.drew.cell? ⟨w7.heap.size, 0, none⟩ = some (.iface 73 (.pointer (some ⟨ar, 0, none⟩))) ∧ wX.drew.cell? ⟨w3.heap.size, 0, none⟩ = some (.pointer (some ⟨rt, 0, none⟩)) ∧ wX.drew.cell? ⟨w3.heap.size, 1, none⟩ = some (.iface 76 (.pointer (some ⟨sm, 0, none⟩))) ∧ wX.drew.cell? ⟨w3.heap.size, 2, none⟩ = some (.iface 73 (.pointer (some ⟨ar, 0, none⟩))) ∧ wX.drew.cell? ⟨w3.heap.size, 3, none⟩ = some (.slice (some ⟨e0, 0, none⟩) 0 0) := ⟨cell_of (id b_vr) rfl, cell_of (id b_va) rfl, cell_of (id b_c) rfl, cell_of (id b_c) rfl, cell_of (id b_c) rfl, cell_of (id b_c) rfl⟩
      go_region_held3 (fun w' => w'.cell? ⟨w6.heap.size, 0, none⟩ = some (.iface 76 (.pointer (some ⟨sm, 0, none⟩))) ∧ w'.cell? ⟨w7.heap.size, 0, none⟩ = some (.iface 73 (.pointer (some ⟨ar, 0, none⟩))) ∧ w'.cell? ⟨w3.heap.size, 0, none⟩ = some (.pointer (some ⟨rt, 0, none⟩)) ∧ w'.cell? ⟨w3.heap.size, 1, none⟩ = some (.iface 76 (.pointer (some ⟨sm, 0, none⟩))) ∧ w'.cell? ⟨w3.heap.size, 2, none⟩ = some (.iface 73 (.pointer (some ⟨ar, 0, none⟩))) ∧ w'.cell? ⟨w3.heap.size, 3, none⟩ = some (.slice (some ⟨e0, 0, none⟩) 0 0)) (first | exact S0 | exact S1 | exact S2 | exact S3 | exact S4 | exact S5) (first | (go_at_call 15; refine (sumNode rt sm ar e0 0 _).mono ?_; rintro e wA ⟨rfl, qA⟩; have S1 : wA.cell? ⟨w6.heap.size, 0, none⟩ = some (.iface 76 (.pointer (some ⟨sm, 0, none⟩))) ∧ wA.cell? ⟨w7.heap.size, 0, none⟩ = some (.iface 73 (.pointer (some ⟨ar, 0, none⟩))) ∧ wA.cell? ⟨w3.heap.size, 0, none⟩ = some (.pointer (some ⟨rt, 0, none⟩)) ∧ wA.cell? ⟨w3.heap.size, 1, none⟩ = some (.iface 76 (.pointer (some ⟨sm, 0, none⟩))) ∧ wA.cell? ⟨w3.heap.size, 2, none⟩ = some (.iface 73 (.pointer (some ⟨ar, 0, none⟩))) ∧ wA.cell? ⟨w3.heap.size, 3, none⟩ = some (.slice (some ⟨e0, 0, none⟩) 0 0) := ⟨cell_of (qA.keep id b_vr) rfl, cell_of (qA.keep id b_va) rfl, cell_of (qA.keep id b_c) rfl, cell_of (qA.keep id b_c) rfl, cell_of (qA.keep id b_c) rfl, cell_of (qA.keep id b_c) rfl⟩) | (go_at_call 11; refine (zzSame isPU sm _).mono ?_; rintro e wB ⟨rfl, qB⟩; have kB := qA.trans qB; have smB := kB.keep id b_sm; have S2 : wB.cell? ⟨w6.heap.size, 0, none⟩ = some (.iface 76 (.pointer (some ⟨sm, 0, none⟩))) ∧ wB.cell? ⟨w7.heap.size, 0, none⟩ = some (.iface 73 (.pointer (some ⟨ar, 0, none⟩))) ∧ wB.cell? ⟨w3.heap.size, 0, none⟩ = some (.pointer (some ⟨rt, 0, none⟩)) ∧ wB.cell? ⟨w3.heap.size, 1, none⟩ = some (.iface 76 (.pointer (some ⟨sm, 0, none⟩))) ∧ wB.cell? ⟨w3.heap.size, 2, none⟩ = some (.iface 73 (.pointer (some ⟨ar, 0, none⟩))) ∧ wB.cell? ⟨w3.heap.size, 3, none⟩ = some (.slice (some ⟨e0, 0, none⟩) 0 0) := ⟨cell_of (kB.keep id b_vr) rfl, cell_of (kB.keep id b_va) rfl, cell_of (kB.keep id b_c) rfl, cell_of (kB.keep id b_c) rfl, cell_of (kB.keep id b_c) rfl, cell_of (kB.keep id b_c) rfl⟩) | (go_at_call 16; refine (builtinArgCount sm 2 (some ⟨ag, 0, none⟩) 1 ca _ _ _ _ _ smB).mono ?_; rintro e wC ⟨rfl, qC⟩; have kC := kB.trans qC; have smC := kC.keep id b_sm; have agC := (World.cell?_of_block (kC.block ag id lag)).trans b_ag; have S3 : wC.cell? ⟨w6.heap.size, 0, none⟩ = some (.iface 76 (.pointer (some ⟨sm, 0, none⟩))) ∧ wC.cell? ⟨w7.heap.size, 0, none⟩ = some (.iface 73 (.pointer (some ⟨ar, 0, none⟩))) ∧ wC.cell? ⟨w3.heap.size, 0, none⟩ = some (.pointer (some ⟨rt, 0, none⟩)) ∧ wC.cell? ⟨w3.heap.size, 1, none⟩ = some (.iface 76 (.pointer (some ⟨sm, 0, none⟩))) ∧ wC.cell? ⟨w3.heap.size, 2, none⟩ = some (.iface 73 (.pointer (some ⟨ar, 0, none⟩))) ∧ wC.cell? ⟨w3.heap.size, 3, none⟩ = some (.slice (some ⟨e0, 0, none⟩) 0 0) := ⟨cell_of (kC.keep id b_vr) rfl, cell_of (kC.keep id b_va) rfl, cell_of (kC.keep id b_c) rfl, cell_of (kC.keep id b_c) rfl, cell_of (kC.keep id b_c) rfl, cell_of (kC.keep id b_c) rfl⟩) | (go_at_call 17; refine (builtinArg0 sm 2 ag 1 ca 73 ar _ _ _ _ (by decide) _ smC agC).mono ?_; rintro e wD ⟨rfl, qD⟩; have kD := kC.trans qD; have S4 : wD.cell? ⟨w6.heap.size, 0, none⟩ = some (.iface 76 (.pointer (some ⟨sm, 0, none⟩))) ∧ wD.cell? ⟨w7.heap.size, 0, none⟩ = some (.iface 73 (.pointer (some ⟨ar, 0, none⟩))) ∧ wD.cell? ⟨w3.heap.size, 0, none⟩ = some (.pointer (some ⟨rt, 0, none⟩)) ∧ wD.cell? ⟨w3.heap.size, 1, none⟩ = some (.iface 76 (.pointer (some ⟨sm, 0, none⟩))) ∧ wD.cell? ⟨w3.heap.size, 2, none⟩ = some (.iface 73 (.pointer (some ⟨ar, 0, none⟩))) ∧ wD.cell? ⟨w3.heap.size, 3, none⟩ = some (.slice (some ⟨e0, 0, none⟩) 0 0) := ⟨cell_of (kD.keep id b_vr) rfl, cell_of (kD.keep id b_va) rfl, cell_of (kD.keep id b_c) rfl, cell_of (kD.keep id b_c) rfl, cell_of (kD.keep id b_c) rfl, cell_of (kD.keep id b_c) rfl⟩) | (go_at_call 11; refine (zzSame isPA ar _).mono ?_; rintro e wE ⟨rfl, qE⟩; have S5 : wE.cell? ⟨w6.heap.size, 0, none⟩ = some (.iface 76 (.pointer (some ⟨sm, 0, none⟩))) ∧ wE.cell? ⟨w7.heap.size, 0, none⟩ = some (.iface 73 (.pointer (some ⟨ar, 0, none⟩))) ∧ wE.cell? ⟨w3.heap.size, 0, none⟩ = some (.pointer (some ⟨rt, 0, none⟩)) ∧ wE.cell? ⟨w3.heap.size, 1, none⟩ = some (.iface 76 (.pointer (some ⟨sm, 0, none⟩))) ∧ wE.cell? ⟨w3.heap.size, 2, none⟩ = some (.iface 73 (.pointer (some ⟨ar, 0, none⟩))) ∧ wE.cell? ⟨w3.heap.size, 3, none⟩ = some (.slice (some ⟨e0, 0, none⟩) 0 0) := ⟨cell_of ((kD.trans qE).keep id b_vr) rfl, cell_of ((kD.trans qE).keep id b_va) rfl, cell_of ((kD.trans qE).keep id b_c) rfl, cell_of ((kD.trans qE).keep id b_c) rfl, cell_of ((kD.trans qE).keep id b_c) rfl, cell_of ((kD.trans qE).keep id b_c) rfl⟩))
      all_goals
        obtain ⟨B5, kX⟩ := HB.out
        go_wp2
        go_ret
        exact ⟨rfl, B5.trans (((kX.drew.trans kD).trans qE).below (B := w0.heap.size) B5.size (fun _ h => h.elim))⟩
end Go.Proofs.YtkgllpdcpmcmoaaReflFmt.opt
