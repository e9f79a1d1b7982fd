/-
Row 12: the law's walk, some of its cases. No condition.
-/
import Derived.Test.YtkgllpdcpmcmoaaReflFmtLaw12h
namespace Go.Proofs.YtkgllpdcpmcmoaaReflFmt.opt
open Go Go.Proofs Go.RowKit
set_option maxRecDepth 100000
set_option maxHeartbeats 40000000
theorem law12_max_false (ad : Addr) (c : Nat) (zs : List Int) (hn : zs.length ≤ 4096) (w : World)
    (hsrc : ∀ j, j < zs.length → w.cell? (ad.add j) = some (.int .i64 (zs.getD j 0))) :
    Calls Tryr.prog 3 #[.int .i64 1, .slice (some ad) zs.length c, .bool false] w fun e w' => e = .returned (.bool true) ∧ Below w.heap.size w w' := by
  have hb1 : (!decide ((1048576 : Int) < zs.length)) = true := by simp; omega
  have hs1 : ¬ ((4096 : Int) < zs.length) := by omega
  have qT : ∀ (w : World) (a : Option Addr) (n c n' c' : Nat), (Go.binOp .neq 36 (.slice a n c) (.slice none n' c')).run Tryr.prog w = .ok (.bool (!a.isNone)) w := fun w a n c n' c' => run_neq_slice_nil_any w _ _ a n c n' c' Tryr.underlying36
  have hm := run_make_row' (P := Tryr.prog) 36 3 (.int .i64 0) 8 Tryr.underlying36 infoI rfl .i64 .i64 zs.length (by omega) (by omega)
  go_enter Tryr.func3, Tryr.ntmps3
  go_wp2_with fail
  refine (bytes12 _ _ _ _ _ _).mono ?_
  rintro e w0 ⟨rfl, rfl⟩
  rw [hb1]
  have hsrc2 : ∀ (j : Nat) v, (zs.map (Value.int .i64))[j]? = some v → (w0.alloc (.cells (madeCells #[.int .i64 0] zs.length) 3)).cell? (ad.add j) = some v := by
    intro j v hj
    have hjl : j < zs.length := by
      have := (List.getElem?_eq_some_iff.1 hj).1
      simpa using this
    have e : v = .int .i64 (zs.getD j 0) := by
      simp [hjl] at hj
      rw [← hj]; simp [List.getD_eq_getElem?_getD, hjl]
    rw [e]
    exact up (hsrc j hjl)
  have hone : ∀ v ∈ zs.map (Value.int .i64), v.oneCell' = true := by
    intro v hv
    obtain ⟨z, _, rfl⟩ := List.mem_map.1 hv
    rfl
  have hcp : (Builtin.copy_ #[36, 36] 3 #[.slice (some ⟨w0.heap.size, 0, none⟩) zs.length zs.length, .slice (some ad) zs.length c]).run Tryr.prog (w0.alloc (.cells (madeCells #[.int .i64 0] zs.length) 3)) = .ok (goInt zs.length) (w0.alloc (.cells (zs.map (Value.int .i64)).toArray 3)) := by
    have key := run_copy_row (P := Tryr.prog) (w0.alloc (.cells (madeCells #[.int .i64 0] zs.length) 3)) 36 36 3 3 w0.heap.size 0 zs.length zs.length ad zs.length c (madeCells #[.int .i64 0] zs.length) 3 (zs.map (Value.int .i64)) Tryr.underlying36 infoI1 (h_new _ _) (by simp) hsrc2 (by simp [madeCells]) hone
    rw [World.setRow_alloc_new] at key
    have e : ((madeCells #[Value.int .i64 0] zs.length).toList.take 0 ++ zs.map (Value.int .i64) ++ (madeCells #[Value.int .i64 0] zs.length).toList.drop (0 + (zs.map (Value.int .i64)).length)).toArray = (zs.map (Value.int .i64)).toArray := by
      have hd : (madeCells #[Value.int .i64 0] zs.length).toList.drop (0 + (zs.map (Value.int .i64)).length) = [] := List.drop_eq_nil_of_le (by simp [madeCells])
      rw [hd]; simp
    rw [e, List.length_map] at key
    exact key
  clear hsrc hsrc2 hone
  have hv : (w0.alloc (.cells (zs.map (Value.int .i64)).toArray 3)).heap[w0.heap.size]? = some (.cells (zs.map (Value.int .i64)).toArray 3 (0, 0)) := h_new _ _
  have hvals : ∀ j, j < zs.length → (w0.alloc (.cells (zs.map (Value.int .i64)).toArray 3)).cell? ⟨w0.heap.size, 0 + j, none⟩ = some (.int .i64 (zs.getD j 0)) := fun j hj => cell_of hv (by simp [List.getD_eq_getElem?_getD, hj])
  have hb2 : Below w0.heap.size w0 (w0.alloc (.cells (zs.map (Value.int .i64)).toArray 3)) := (Below.refl _ _).alloc (Nat.le_refl _) _
  have lv := lt_of hv
  go_wp2_with fail
  refine (buildSum ⟨#[109, 97, 120]⟩ 2 (by decide) (some ⟨w0.heap.size, 0, none⟩) w0.heap.size 0 zs.length zs (.inr rfl) hn _ (fun _ => lv) hvals).mono ?_
  clear hcp hm qT
  rintro e w3 ⟨rt, sm, ar, ag, ca, e0, rfl, hS0, o1, o2, o3, o4, o5, o6, q3⟩
  have hS : SumAt w3 ⟨#[109, 97, 120]⟩ 2 rt sm ar ag 1 ca e0 zs := hS0
  have hS4 := hS.keep ((But.refl (fun _ => False) w3).alloc (.cells #[(.pointer (some ⟨rt, 0, none⟩)), (.iface 76 (.pointer (some ⟨sm, 0, none⟩))), (.iface 73 (.pointer (some ⟨ar, 0, none⟩))), .slice (some ⟨e0, 0, none⟩) zs.length zs.length] 43)) (fun _ h => h.elim)
  have hcv := h_new w3 (.cells #[(.pointer (some ⟨rt, 0, none⟩)), (.iface 76 (.pointer (some ⟨sm, 0, none⟩))), (.iface 73 (.pointer (some ⟨ar, 0, none⟩))), .slice (some ⟨e0, 0, none⟩) zs.length zs.length] 43)
  have hv4 := h_old (.cells #[(.pointer (some ⟨rt, 0, none⟩)), (.iface 76 (.pointer (some ⟨sm, 0, none⟩))), (.iface 73 (.pointer (some ⟨ar, 0, none⟩))), .slice (some ⟨e0, 0, none⟩) zs.length zs.length] 43) (q3.keep id hv)
  have B4 := (hb2.trans (q3.below hb2.size (fun _ h => h.elim))).alloc (Nat.le_trans hb2.size q3.size) (.cells #[(.pointer (some ⟨rt, 0, none⟩)), (.iface 76 (.pointer (some ⟨sm, 0, none⟩))), (.iface 73 (.pointer (some ⟨ar, 0, none⟩))), .slice (some ⟨e0, 0, none⟩) zs.length zs.length] 43)
  have lrt := lt_of hS.root
  have l23 := q3.size
  rw [World.size_alloc] at l23 o1 lv
  clear hS0 hS q3 hv hvals hb2
  have cv0 : (w3.alloc (.cells #[(.pointer (some ⟨rt, 0, none⟩)), (.iface 76 (.pointer (some ⟨sm, 0, none⟩))), (.iface 73 (.pointer (some ⟨ar, 0, none⟩))), .slice (some ⟨e0, 0, none⟩) zs.length zs.length] 43)).cell? ⟨w3.heap.size, 0, none⟩ = some (.pointer (some ⟨rt, 0, none⟩)) := cell_of hcv rfl
  go_wp2_with fail
  refine (zzVisit rt sm ar e0 zs _ (fun w' => But (fun k => k = rt) (w3.alloc (.cells #[(.pointer (some ⟨rt, 0, none⟩)), (.iface 76 (.pointer (some ⟨sm, 0, none⟩))), (.iface 73 (.pointer (some ⟨ar, 0, none⟩))), .slice (some ⟨e0, 0, none⟩) zs.length zs.length] 43)) w' ∧ w'.heap[rt]? = some (.cells #[(.iface 76 (.pointer (some ⟨sm, 0, none⟩)))] 40 (0, 0))) (fun x w1 q1 => ?_)).mono ?_
  · refine (visit_max x 2 rt sm ar ag 1 ca e0 zs w1 (hS4.keep q1 (fun _ h => h.elim))).mono ?_
    rintro e w' ⟨rfl, rfl⟩
    exact ⟨rfl, q1.mono (fun _ h => h.elim), q1.keep id hS4.root⟩
  rintro e w5 ⟨rfl, q5, hrt⟩
  have harr5 := q5.keep (by omega) hS4.arr
  have hsum5 := q5.keep (by omega) hS4.sum
  have hargs5 := (World.cell?_of_block (w := w3.alloc (.cells #[(.pointer (some ⟨rt, 0, none⟩)), (.iface 76 (.pointer (some ⟨sm, 0, none⟩))), (.iface 73 (.pointer (some ⟨ar, 0, none⟩))), .slice (some ⟨e0, 0, none⟩) zs.length zs.length] 43)) (q5.block ag (by omega) (World.block_lt_of_cell? _ _ hS4.args))).trans hS4.args
  have hcv5 := q5.keep (by omega) hcv
  have hels5 : ∀ i, i < zs.length → w5.cell? ⟨e0, i, none⟩ = some (.iface 59 (.pointer (some ⟨(e0 + 1) + i, 0, none⟩))) := fun i hi => (World.cell?_of_block (w := w3.alloc (.cells #[(.pointer (some ⟨rt, 0, none⟩)), (.iface 76 (.pointer (some ⟨sm, 0, none⟩))), (.iface 73 (.pointer (some ⟨ar, 0, none⟩))), .slice (some ⟨e0, 0, none⟩) zs.length zs.length] 43)) (q5.block e0 (by omega) (World.block_lt_of_cell? _ _ (hS4.els i hi)))).trans (hS4.els i hi)
  have B5 := B4.trans (q5.below (B := w0.heap.size) B4.size (by intro k hk; omega))
  have s5 := q5.size
  rw [World.size_alloc] at s5
  clear hcv hv4 B4 q5 cv0
  clear hS4
  have cv0 : w5.cell? ⟨w3.heap.size, 0, none⟩ = some (.pointer (some ⟨rt, 0, none⟩)) := cell_of (hcv5) rfl
  have cv1 : w5.cell? ⟨w3.heap.size, 1, none⟩ = some (.iface 76 (.pointer (some ⟨sm, 0, none⟩))) := cell_of (hcv5) rfl
  have cv2 : w5.cell? ⟨w3.heap.size, 2, none⟩ = some (.iface 73 (.pointer (some ⟨ar, 0, none⟩))) := cell_of (hcv5) rfl
  have cv3 : w5.cell? ⟨w3.heap.size, 3, none⟩ = some (.slice (some ⟨e0, 0, none⟩) zs.length zs.length) := cell_of (hcv5) rfl
  go_wp2_with fail
  refine (sumRoot rt sm ar e0 zs.length 76 sm _ hrt).mono ?_
  clear cv0 cv1 cv2 cv3
  rintro e w6 ⟨rfl, R6⟩
  have R6a := R6.alloc (.cells #[(.iface 76 (.pointer (some ⟨sm, 0, none⟩)))] 47)
  have s6 := R6.size
  have lc6 : w3.heap.size < w6.heap.size := by omega
  have cv0 : w6.cell? ⟨w3.heap.size, 0, none⟩ = some (.pointer (some ⟨rt, 0, none⟩)) := cell_of (R6.keep id hcv5) rfl
  have cv1 : w6.cell? ⟨w3.heap.size, 1, none⟩ = some (.iface 76 (.pointer (some ⟨sm, 0, none⟩))) := cell_of (R6.keep id hcv5) rfl
  have cv2 : w6.cell? ⟨w3.heap.size, 2, none⟩ = some (.iface 73 (.pointer (some ⟨ar, 0, none⟩))) := cell_of (R6.keep id hcv5) rfl
  have cv3 : w6.cell? ⟨w3.heap.size, 3, none⟩ = some (.slice (some ⟨e0, 0, none⟩) zs.length zs.length) := cell_of (R6.keep id hcv5) rfl
  go_wp2_with fail
  refine (sumArr rt sm ar e0 zs.length _).mono ?_
  clear cv0 cv1 cv2 cv3
  rintro e w7 ⟨rfl, q7⟩
  have R7 := R6a.trans q7
  have hvr7 := q7.keep id (h_new w6 (.cells #[(.iface 76 (.pointer (some ⟨sm, 0, none⟩)))] 47))
  have s7 := R7.size
  have s67 := q7.size
  rw [World.size_alloc] at s67
  have R7a := R7.alloc (.cells #[(.iface 73 (.pointer (some ⟨ar, 0, none⟩)))] 47)
  go_wp2_with fail
  refine (arrayLen ar 0 (some ⟨e0, 0, none⟩) zs.length zs.length _ (R7a.keep id harr5)).mono ?_
  rintro e w8 ⟨rfl, q8⟩
  have R8 := R7a.trans q8
  have hva8 := q8.keep id (h_new w7 (.cells #[(.iface 73 (.pointer (some ⟨ar, 0, none⟩)))] 47))
  have hvr8 := q8.keep id (h_old (.cells #[(.iface 73 (.pointer (some ⟨ar, 0, none⟩)))] 47) hvr7)
  have s78 := q8.size
  rw [World.size_alloc] at s78
  have s8 := R8.size
  clear R6 R6a R7 R7a q7 q8 hvr7
  have hcv8 := R8.keep id hcv5
  have harr8 := R8.keep id harr5
  have hels8 : ∀ i, i < zs.length → w8.cell? ⟨e0, i, none⟩ = some (.iface 59 (.pointer (some ⟨(e0 + 1) + i, 0, none⟩))) := fun i hi => (World.cell?_of_block (w := w5) (R8.block e0 id (World.block_lt_of_cell? _ _ (hels5 i hi)))).trans (hels5 i hi)
  go_wp2
  go_loopw [12] (fun vi wr => ∃ (i : Nat), i ≤ zs.length ∧ vi = .int .i64 i ∧ But (fun _ => False) w8 wr) (fun vi _ => zs.length - (intOf vi).toNat)
  case atStart => exact ⟨0, Nat.zero_le _, rfl, But.refl _ _⟩
  case round =>
    obtain ⟨i, hi, rfl, Q⟩ := hrel
    have sQ := Q.size
    by_cases hlt : i < zs.length
    · have lcr : w3.heap.size < wr.heap.size := by omega
      have lar : w7.heap.size < wr.heap.size := by omega
      have cv0 : wr.cell? ⟨w3.heap.size, 0, none⟩ = some (.pointer (some ⟨rt, 0, none⟩)) := cell_of (Q.keep id hcv8) rfl
      have cv1 : wr.cell? ⟨w3.heap.size, 1, none⟩ = some (.iface 76 (.pointer (some ⟨sm, 0, none⟩))) := cell_of (Q.keep id hcv8) rfl
      have cv2 : wr.cell? ⟨w3.heap.size, 2, none⟩ = some (.iface 73 (.pointer (some ⟨ar, 0, none⟩))) := cell_of (Q.keep id hcv8) rfl
      have cv3 : wr.cell? ⟨w3.heap.size, 3, none⟩ = some (.slice (some ⟨e0, 0, none⟩) zs.length zs.length) := cell_of (Q.keep id hcv8) rfl
      have ca0 : wr.cell? ⟨w7.heap.size, 0, none⟩ = some (.iface 73 (.pointer (some ⟨ar, 0, none⟩))) := cell_of (Q.keep id hva8) rfl
      have hcr : wr.drew.heap[w3.heap.size]? = some (.cells #[(.pointer (some ⟨rt, 0, none⟩)), (.iface 76 (.pointer (some ⟨sm, 0, none⟩))), (.iface 73 (.pointer (some ⟨ar, 0, none⟩))), .slice (some ⟨e0, 0, none⟩) zs.length zs.length] 43) := Q.keep id hcv8
      have har : wr.drew.heap[w7.heap.size]? = some (.cells #[(.iface 73 (.pointer (some ⟨ar, 0, none⟩)))] 47) := Q.keep id hva8
      have hrr : wr.drew.heap[ar]? = some (.cells (nodeC 0 #[.slice (some ⟨e0, 0, none⟩) zs.length zs.length]) 75 (0, 0)) := Q.keep id harr8
      have her : wr.drew.cell? ⟨e0, i, none⟩ = some (.iface 59 (.pointer (some ⟨(e0 + 1) + i, 0, none⟩))) := (World.cell?_of_block (w := w8) (Q.block e0 id (World.block_lt_of_cell? _ _ (hels8 i hlt)))).trans (hels8 i hlt)
      have leb := World.block_lt_of_cell? _ _ her
      go_wp2
      go_region_with (first | (go_at_call 12; (first | (refine (arrayElem ar 0 e0 zs.length i 59 (e0 + 1 + i) hlt _ hrr her).mono ?_; rintro e wa ⟨rfl, qa⟩; have dc := qa.keep id hcr; have dc0 := cell_of dc (j := 0) rfl; have dc1 := cell_of dc (j := 1) rfl; have dc2 := cell_of dc (j := 2) rfl; have dc3 := cell_of dc (j := 3) rfl; have de := (World.cell?_of_block (qa.block e0 id leb)).trans her) | (refine (arrayElem ar 0 e0 zs.length i 59 (e0 + 1 + i) hlt _ dr de).mono ?_; rintro e wa ⟨rfl, qa⟩))) | (go_at_call 13; (first | (refine (sumElem rt sm ar e0 zs.length i 59 (e0 + 1 + i) hlt _ her).mono ?_; rintro e wb ⟨rfl, qb⟩; have da0 := cell_of (qb.keep id har) (j := 0) rfl; have dr := qb.keep id hrr; have de := (World.cell?_of_block (qb.block e0 id leb)).trans her) | (refine (sumElem rt sm ar e0 zs.length i 59 (e0 + 1 + i) hlt _ de).mono ?_; rintro e wb ⟨rfl, qb⟩))) | (go_at_call 11; refine (zzSame isPI (e0 + 1 + i) _).mono ?_; rintro e wc ⟨rfl, qc⟩))
      all_goals
        have Q9 : But (fun _ => False) w8 wc := by first | exact ((Q.drew.trans qa).trans qb).trans qc | exact ((Q.drew.trans qb).trans qa).trans qc
        go_wp2
        go_roundw
        case rel => exact ⟨i + 1, by omega, by simp, Q9⟩
        case measure => simp [intOf]; omega
    · have hi3 : ¬ ((i : Int) < zs.length) := by omega
      have vr9 : wr.cell? ⟨w6.heap.size, 0, none⟩ = some (.iface 76 (.pointer (some ⟨sm, 0, none⟩))) := cell_of (Q.keep id hvr8) rfl
      have lvr : w6.heap.size < wr.heap.size := by omega
      have lva : w7.heap.size < wr.heap.size := by omega
      have lvc : w3.heap.size < wr.heap.size := by omega
      have hsm9 := Q.keep id (R8.keep id hsum5)
      go_wp2_with fail
      refine (builtinName sm 2 ⟨#[109, 97, 120]⟩ _ _ _ _ _ hsm9).mono ?_
      clear vr9
      rintro e wX ⟨rfl, qX⟩
      have kX := (R8.trans Q).trans qX
      have b_vr : wX.drew.heap[w6.heap.size]? = some (.cells #[(.iface 76 (.pointer (some ⟨sm, 0, none⟩)))] 47) := qX.keep id (Q.keep id hvr8)
      have b_va : wX.drew.heap[w7.heap.size]? = some (.cells #[(.iface 73 (.pointer (some ⟨ar, 0, none⟩)))] 47) := qX.keep id (Q.keep id hva8)
      have b_c : wX.drew.heap[w3.heap.size]? = some (.cells #[(.pointer (some ⟨rt, 0, none⟩)), (.iface 76 (.pointer (some ⟨sm, 0, none⟩))), (.iface 73 (.pointer (some ⟨ar, 0, none⟩))), .slice (some ⟨e0, 0, none⟩) zs.length zs.length] 43) := qX.keep id (Q.keep id hcv8)
      have b_sm : wX.drew.heap[sm]? = some (.cells (nodeC 2 #[.string ⟨#[109, 97, 120]⟩, .slice (some ⟨ag, 0, none⟩) 1 ca, .bool false, .nilIface, .pointer none]) 79 (0, 0)) := qX.keep id hsm9
      have b_ag : wX.drew.cell? ⟨ag, 0, none⟩ = some (.iface 73 (.pointer (some ⟨ar, 0, none⟩))) := (World.cell?_of_block (w := w5) (kX.block ag id (World.block_lt_of_cell? _ _ hargs5))).trans hargs5
      have lag := World.block_lt_of_cell? _ _ b_ag
      have x_vr : wX.cell? ⟨w6.heap.size, 0, none⟩ = some (.iface 76 (.pointer (some ⟨sm, 0, none⟩))) := cell_of b_vr rfl
      have x_c0 : wX.cell? ⟨w3.heap.size, 0, none⟩ = some (.pointer (some ⟨rt, 0, none⟩)) := cell_of b_c rfl
      have x_c1 : wX.cell? ⟨w3.heap.size, 1, none⟩ = some (.iface 76 (.pointer (some ⟨sm, 0, none⟩))) := cell_of b_c rfl
      have x_c2 : wX.cell? ⟨w3.heap.size, 2, none⟩ = some (.iface 73 (.pointer (some ⟨ar, 0, none⟩))) := cell_of b_c rfl
      have x_c3 : wX.cell? ⟨w3.heap.size, 3, none⟩ = some (.slice (some ⟨e0, 0, none⟩) zs.length zs.length) := cell_of b_c rfl
      have HB : Hid _ := And.intro B5 kX
      clear B5 kX Q R8 qX hels5 hels8 harr5 harr8 hcv5 hcv8 hva8 hvr8 hargs5 hsum5 hsm9 hrt sQ s5 s6 s67 s7 s78 s8 lc6 lvr lva lvc hi3 hlt hi
      go_wp2
      have S0 : wX.drew.cell? ⟨w6.heap.size, 0, none⟩ = some (.iface 76 (.pointer (some ⟨sm, 0, none⟩))) ∧ wX.drew.cell? ⟨w7.heap.size, 0, none⟩ = some (.iface 73 (.pointer (some ⟨ar, 0, none⟩))) ∧ wX.drew.cell? ⟨w3.heap.size, 0, none⟩ = some (.pointer (some ⟨rt, 0, none⟩)) ∧ wX.drew.cell? ⟨w3.heap.size, 1, none⟩ = some (.iface 76 (.pointer (some ⟨sm, 0, none⟩))) ∧ wX.drew.cell? ⟨w3.heap.size, 2, none⟩ = some (.iface 73 (.pointer (some ⟨ar, 0, none⟩))) ∧ wX.drew.cell? ⟨w3.heap.size, 3, none⟩ = some (.slice (some ⟨e0, 0, none⟩) zs.length zs.length) := ⟨cell_of (id b_vr) rfl, cell_of (id b_va) rfl, cell_of (id b_c) rfl, cell_of (id b_c) rfl, cell_of (id b_c) rfl, cell_of (id b_c) rfl⟩
      go_region_held3 (fun w' => w'.cell? ⟨w6.heap.size, 0, none⟩ = some (.iface 76 (.pointer (some ⟨sm, 0, none⟩))) ∧ w'.cell? ⟨w7.heap.size, 0, none⟩ = some (.iface 73 (.pointer (some ⟨ar, 0, none⟩))) ∧ w'.cell? ⟨w3.heap.size, 0, none⟩ = some (.pointer (some ⟨rt, 0, none⟩)) ∧ w'.cell? ⟨w3.heap.size, 1, none⟩ = some (.iface 76 (.pointer (some ⟨sm, 0, none⟩))) ∧ w'.cell? ⟨w3.heap.size, 2, none⟩ = some (.iface 73 (.pointer (some ⟨ar, 0, none⟩))) ∧ w'.cell? ⟨w3.heap.size, 3, none⟩ = some (.slice (some ⟨e0, 0, none⟩) zs.length zs.length)) (first | exact S0 | exact S1 | exact S2 | exact S3 | exact S4 | exact S5) (first | (go_at_call 15; refine (sumNode rt sm ar e0 zs.length _).mono ?_; rintro e wA ⟨rfl, qA⟩; have S1 : wA.cell? ⟨w6.heap.size, 0, none⟩ = some (.iface 76 (.pointer (some ⟨sm, 0, none⟩))) ∧ wA.cell? ⟨w7.heap.size, 0, none⟩ = some (.iface 73 (.pointer (some ⟨ar, 0, none⟩))) ∧ wA.cell? ⟨w3.heap.size, 0, none⟩ = some (.pointer (some ⟨rt, 0, none⟩)) ∧ wA.cell? ⟨w3.heap.size, 1, none⟩ = some (.iface 76 (.pointer (some ⟨sm, 0, none⟩))) ∧ wA.cell? ⟨w3.heap.size, 2, none⟩ = some (.iface 73 (.pointer (some ⟨ar, 0, none⟩))) ∧ wA.cell? ⟨w3.heap.size, 3, none⟩ = some (.slice (some ⟨e0, 0, none⟩) zs.length zs.length) := ⟨cell_of (qA.keep id b_vr) rfl, cell_of (qA.keep id b_va) rfl, cell_of (qA.keep id b_c) rfl, cell_of (qA.keep id b_c) rfl, cell_of (qA.keep id b_c) rfl, cell_of (qA.keep id b_c) rfl⟩) | (go_at_call 11; refine (zzSame isPU sm _).mono ?_; rintro e wB ⟨rfl, qB⟩; have kB := qA.trans qB; have smB := kB.keep id b_sm; have S2 : wB.cell? ⟨w6.heap.size, 0, none⟩ = some (.iface 76 (.pointer (some ⟨sm, 0, none⟩))) ∧ wB.cell? ⟨w7.heap.size, 0, none⟩ = some (.iface 73 (.pointer (some ⟨ar, 0, none⟩))) ∧ wB.cell? ⟨w3.heap.size, 0, none⟩ = some (.pointer (some ⟨rt, 0, none⟩)) ∧ wB.cell? ⟨w3.heap.size, 1, none⟩ = some (.iface 76 (.pointer (some ⟨sm, 0, none⟩))) ∧ wB.cell? ⟨w3.heap.size, 2, none⟩ = some (.iface 73 (.pointer (some ⟨ar, 0, none⟩))) ∧ wB.cell? ⟨w3.heap.size, 3, none⟩ = some (.slice (some ⟨e0, 0, none⟩) zs.length zs.length) := ⟨cell_of (kB.keep id b_vr) rfl, cell_of (kB.keep id b_va) rfl, cell_of (kB.keep id b_c) rfl, cell_of (kB.keep id b_c) rfl, cell_of (kB.keep id b_c) rfl, cell_of (kB.keep id b_c) rfl⟩) | (go_at_call 16; refine (builtinArgCount sm 2 (some ⟨ag, 0, none⟩) 1 ca _ _ _ _ _ smB).mono ?_; rintro e wC ⟨rfl, qC⟩; have kC := kB.trans qC; have smC := kC.keep id b_sm; have agC := (World.cell?_of_block (kC.block ag id lag)).trans b_ag; have S3 : wC.cell? ⟨w6.heap.size, 0, none⟩ = some (.iface 76 (.pointer (some ⟨sm, 0, none⟩))) ∧ wC.cell? ⟨w7.heap.size, 0, none⟩ = some (.iface 73 (.pointer (some ⟨ar, 0, none⟩))) ∧ wC.cell? ⟨w3.heap.size, 0, none⟩ = some (.pointer (some ⟨rt, 0, none⟩)) ∧ wC.cell? ⟨w3.heap.size, 1, none⟩ = some (.iface 76 (.pointer (some ⟨sm, 0, none⟩))) ∧ wC.cell? ⟨w3.heap.size, 2, none⟩ = some (.iface 73 (.pointer (some ⟨ar, 0, none⟩))) ∧ wC.cell? ⟨w3.heap.size, 3, none⟩ = some (.slice (some ⟨e0, 0, none⟩) zs.length zs.length) := ⟨cell_of (kC.keep id b_vr) rfl, cell_of (kC.keep id b_va) rfl, cell_of (kC.keep id b_c) rfl, cell_of (kC.keep id b_c) rfl, cell_of (kC.keep id b_c) rfl, cell_of (kC.keep id b_c) rfl⟩) | (go_at_call 17; refine (builtinArg0 sm 2 ag 1 ca 73 ar _ _ _ _ (by decide) _ smC agC).mono ?_; rintro e wD ⟨rfl, qD⟩; have kD := kC.trans qD; have S4 : wD.cell? ⟨w6.heap.size, 0, none⟩ = some (.iface 76 (.pointer (some ⟨sm, 0, none⟩))) ∧ wD.cell? ⟨w7.heap.size, 0, none⟩ = some (.iface 73 (.pointer (some ⟨ar, 0, none⟩))) ∧ wD.cell? ⟨w3.heap.size, 0, none⟩ = some (.pointer (some ⟨rt, 0, none⟩)) ∧ wD.cell? ⟨w3.heap.size, 1, none⟩ = some (.iface 76 (.pointer (some ⟨sm, 0, none⟩))) ∧ wD.cell? ⟨w3.heap.size, 2, none⟩ = some (.iface 73 (.pointer (some ⟨ar, 0, none⟩))) ∧ wD.cell? ⟨w3.heap.size, 3, none⟩ = some (.slice (some ⟨e0, 0, none⟩) zs.length zs.length) := ⟨cell_of (kD.keep id b_vr) rfl, cell_of (kD.keep id b_va) rfl, cell_of (kD.keep id b_c) rfl, cell_of (kD.keep id b_c) rfl, cell_of (kD.keep id b_c) rfl, cell_of (kD.keep id b_c) rfl⟩) | (go_at_call 11; refine (zzSame isPA ar _).mono ?_; rintro e wE ⟨rfl, qE⟩; have S5 : wE.cell? ⟨w6.heap.size, 0, none⟩ = some (.iface 76 (.pointer (some ⟨sm, 0, none⟩))) ∧ wE.cell? ⟨w7.heap.size, 0, none⟩ = some (.iface 73 (.pointer (some ⟨ar, 0, none⟩))) ∧ wE.cell? ⟨w3.heap.size, 0, none⟩ = some (.pointer (some ⟨rt, 0, none⟩)) ∧ wE.cell? ⟨w3.heap.size, 1, none⟩ = some (.iface 76 (.pointer (some ⟨sm, 0, none⟩))) ∧ wE.cell? ⟨w3.heap.size, 2, none⟩ = some (.iface 73 (.pointer (some ⟨ar, 0, none⟩))) ∧ wE.cell? ⟨w3.heap.size, 3, none⟩ = some (.slice (some ⟨e0, 0, none⟩) zs.length zs.length) := ⟨cell_of ((kD.trans qE).keep id b_vr) rfl, cell_of ((kD.trans qE).keep id b_va) rfl, cell_of ((kD.trans qE).keep id b_c) rfl, cell_of ((kD.trans qE).keep id b_c) rfl, cell_of ((kD.trans qE).keep id b_c) rfl, cell_of ((kD.trans qE).keep id b_c) rfl⟩))
      all_goals
        obtain ⟨B5, kX⟩ := HB.out
        go_wp2
        go_ret
        exact ⟨rfl, B5.trans (((kX.drew.trans kD).trans qE).below (B := w0.heap.size) B5.size (fun _ h => h.elim))⟩
theorem law12_len_false (ad : Addr) (c : Nat) (zs : List Int) (hn : zs.length ≤ 4096) (w : World)
    (hsrc : ∀ j, j < zs.length → w.cell? (ad.add j) = some (.int .i64 (zs.getD j 0))) :
    Calls Tryr.prog 3 #[.int .i64 3, .slice (some ad) zs.length c, .bool false] w fun e w' => e = .returned (.bool true) ∧ Below w.heap.size w w' := by
  have hb1 : (!decide ((1048576 : Int) < zs.length)) = true := by simp; omega
  have hs1 : ¬ ((4096 : Int) < zs.length) := by omega
  have qT : ∀ (w : World) (a : Option Addr) (n c n' c' : Nat), (Go.binOp .neq 36 (.slice a n c) (.slice none n' c')).run Tryr.prog w = .ok (.bool (!a.isNone)) w := fun w a n c n' c' => run_neq_slice_nil_any w _ _ a n c n' c' Tryr.underlying36
  have hm := run_make_row' (P := Tryr.prog) 36 3 (.int .i64 0) 8 Tryr.underlying36 infoI rfl .i64 .i64 zs.length (by omega) (by omega)
  go_enter Tryr.func3, Tryr.ntmps3
  go_wp2_with fail
  refine (bytes12 _ _ _ _ _ _).mono ?_
  rintro e w0 ⟨rfl, rfl⟩
  rw [hb1]
  have hsrc2 : ∀ (j : Nat) v, (zs.map (Value.int .i64))[j]? = some v → (w0.alloc (.cells (madeCells #[.int .i64 0] zs.length) 3)).cell? (ad.add j) = some v := by
    intro j v hj
    have hjl : j < zs.length := by
      have := (List.getElem?_eq_some_iff.1 hj).1
      simpa using this
    have e : v = .int .i64 (zs.getD j 0) := by
      simp [hjl] at hj
      rw [← hj]; simp [List.getD_eq_getElem?_getD, hjl]
    rw [e]
    exact up (hsrc j hjl)
  have hone : ∀ v ∈ zs.map (Value.int .i64), v.oneCell' = true := by
    intro v hv
    obtain ⟨z, _, rfl⟩ := List.mem_map.1 hv
    rfl
  have hcp : (Builtin.copy_ #[36, 36] 3 #[.slice (some ⟨w0.heap.size, 0, none⟩) zs.length zs.length, .slice (some ad) zs.length c]).run Tryr.prog (w0.alloc (.cells (madeCells #[.int .i64 0] zs.length) 3)) = .ok (goInt zs.length) (w0.alloc (.cells (zs.map (Value.int .i64)).toArray 3)) := by
    have key := run_copy_row (P := Tryr.prog) (w0.alloc (.cells (madeCells #[.int .i64 0] zs.length) 3)) 36 36 3 3 w0.heap.size 0 zs.length zs.length ad zs.length c (madeCells #[.int .i64 0] zs.length) 3 (zs.map (Value.int .i64)) Tryr.underlying36 infoI1 (h_new _ _) (by simp) hsrc2 (by simp [madeCells]) hone
    rw [World.setRow_alloc_new] at key
    have e : ((madeCells #[Value.int .i64 0] zs.length).toList.take 0 ++ zs.map (Value.int .i64) ++ (madeCells #[Value.int .i64 0] zs.length).toList.drop (0 + (zs.map (Value.int .i64)).length)).toArray = (zs.map (Value.int .i64)).toArray := by
      have hd : (madeCells #[Value.int .i64 0] zs.length).toList.drop (0 + (zs.map (Value.int .i64)).length) = [] := List.drop_eq_nil_of_le (by simp [madeCells])
      rw [hd]; simp
    rw [e, List.length_map] at key
    exact key
  clear hsrc hsrc2 hone
  have hv : (w0.alloc (.cells (zs.map (Value.int .i64)).toArray 3)).heap[w0.heap.size]? = some (.cells (zs.map (Value.int .i64)).toArray 3 (0, 0)) := h_new _ _
  have hvals : ∀ j, j < zs.length → (w0.alloc (.cells (zs.map (Value.int .i64)).toArray 3)).cell? ⟨w0.heap.size, 0 + j, none⟩ = some (.int .i64 (zs.getD j 0)) := fun j hj => cell_of hv (by simp [List.getD_eq_getElem?_getD, hj])
  have hb2 : Below w0.heap.size w0 (w0.alloc (.cells (zs.map (Value.int .i64)).toArray 3)) := (Below.refl _ _).alloc (Nat.le_refl _) _
  have lv := lt_of hv
  go_wp2_with fail
  refine (buildSum ⟨#[108, 101, 110]⟩ 2 (by decide) (some ⟨w0.heap.size, 0, none⟩) w0.heap.size 0 zs.length zs (.inr rfl) hn _ (fun _ => lv) hvals).mono ?_
  clear hcp hm qT
  rintro e w3 ⟨rt, sm, ar, ag, ca, e0, rfl, hS0, o1, o2, o3, o4, o5, o6, q3⟩
  have hS : SumAt w3 ⟨#[108, 101, 110]⟩ 2 rt sm ar ag 1 ca e0 zs := hS0
  have hS4 := hS.keep ((But.refl (fun _ => False) w3).alloc (.cells #[(.pointer (some ⟨rt, 0, none⟩)), (.iface 76 (.pointer (some ⟨sm, 0, none⟩))), (.iface 73 (.pointer (some ⟨ar, 0, none⟩))), .slice (some ⟨e0, 0, none⟩) zs.length zs.length] 43)) (fun _ h => h.elim)
  have hcv := h_new w3 (.cells #[(.pointer (some ⟨rt, 0, none⟩)), (.iface 76 (.pointer (some ⟨sm, 0, none⟩))), (.iface 73 (.pointer (some ⟨ar, 0, none⟩))), .slice (some ⟨e0, 0, none⟩) zs.length zs.length] 43)
  have hv4 := h_old (.cells #[(.pointer (some ⟨rt, 0, none⟩)), (.iface 76 (.pointer (some ⟨sm, 0, none⟩))), (.iface 73 (.pointer (some ⟨ar, 0, none⟩))), .slice (some ⟨e0, 0, none⟩) zs.length zs.length] 43) (q3.keep id hv)
  have B4 := (hb2.trans (q3.below hb2.size (fun _ h => h.elim))).alloc (Nat.le_trans hb2.size q3.size) (.cells #[(.pointer (some ⟨rt, 0, none⟩)), (.iface 76 (.pointer (some ⟨sm, 0, none⟩))), (.iface 73 (.pointer (some ⟨ar, 0, none⟩))), .slice (some ⟨e0, 0, none⟩) zs.length zs.length] 43)
  have lrt := lt_of hS.root
  have l23 := q3.size
  rw [World.size_alloc] at l23 o1 lv
  clear hS0 hS q3 hv hvals hb2
  have cv0 : (w3.alloc (.cells #[(.pointer (some ⟨rt, 0, none⟩)), (.iface 76 (.pointer (some ⟨sm, 0, none⟩))), (.iface 73 (.pointer (some ⟨ar, 0, none⟩))), .slice (some ⟨e0, 0, none⟩) zs.length zs.length] 43)).cell? ⟨w3.heap.size, 0, none⟩ = some (.pointer (some ⟨rt, 0, none⟩)) := cell_of hcv rfl
  go_wp2_with fail
  refine (zzVisit rt sm ar e0 zs _ (fun w' => But (fun k => k = rt) (w3.alloc (.cells #[(.pointer (some ⟨rt, 0, none⟩)), (.iface 76 (.pointer (some ⟨sm, 0, none⟩))), (.iface 73 (.pointer (some ⟨ar, 0, none⟩))), .slice (some ⟨e0, 0, none⟩) zs.length zs.length] 43)) w' ∧ w'.heap[rt]? = some (.cells #[(.iface 76 (.pointer (some ⟨sm, 0, none⟩)))] 40 (0, 0))) (fun x w1 q1 => ?_)).mono ?_
  · refine (visit_len x 2 rt sm ar ag 1 ca e0 zs w1 (hS4.keep q1 (fun _ h => h.elim))).mono ?_
    rintro e w' ⟨rfl, rfl⟩
    exact ⟨rfl, q1.mono (fun _ h => h.elim), q1.keep id hS4.root⟩
  rintro e w5 ⟨rfl, q5, hrt⟩
  have harr5 := q5.keep (by omega) hS4.arr
  have hsum5 := q5.keep (by omega) hS4.sum
  have hargs5 := (World.cell?_of_block (w := w3.alloc (.cells #[(.pointer (some ⟨rt, 0, none⟩)), (.iface 76 (.pointer (some ⟨sm, 0, none⟩))), (.iface 73 (.pointer (some ⟨ar, 0, none⟩))), .slice (some ⟨e0, 0, none⟩) zs.length zs.length] 43)) (q5.block ag (by omega) (World.block_lt_of_cell? _ _ hS4.args))).trans hS4.args
  have hcv5 := q5.keep (by omega) hcv
  have hels5 : ∀ i, i < zs.length → w5.cell? ⟨e0, i, none⟩ = some (.iface 59 (.pointer (some ⟨(e0 + 1) + i, 0, none⟩))) := fun i hi => (World.cell?_of_block (w := w3.alloc (.cells #[(.pointer (some ⟨rt, 0, none⟩)), (.iface 76 (.pointer (some ⟨sm, 0, none⟩))), (.iface 73 (.pointer (some ⟨ar, 0, none⟩))), .slice (some ⟨e0, 0, none⟩) zs.length zs.length] 43)) (q5.block e0 (by omega) (World.block_lt_of_cell? _ _ (hS4.els i hi)))).trans (hS4.els i hi)
  have B5 := B4.trans (q5.below (B := w0.heap.size) B4.size (by intro k hk; omega))
  have s5 := q5.size
  rw [World.size_alloc] at s5
  clear hcv hv4 B4 q5 cv0
  clear hS4
  have cv0 : w5.cell? ⟨w3.heap.size, 0, none⟩ = some (.pointer (some ⟨rt, 0, none⟩)) := cell_of (hcv5) rfl
  have cv1 : w5.cell? ⟨w3.heap.size, 1, none⟩ = some (.iface 76 (.pointer (some ⟨sm, 0, none⟩))) := cell_of (hcv5) rfl
  have cv2 : w5.cell? ⟨w3.heap.size, 2, none⟩ = some (.iface 73 (.pointer (some ⟨ar, 0, none⟩))) := cell_of (hcv5) rfl
  have cv3 : w5.cell? ⟨w3.heap.size, 3, none⟩ = some (.slice (some ⟨e0, 0, none⟩) zs.length zs.length) := cell_of (hcv5) rfl
  go_wp2_with fail
  refine (sumRoot rt sm ar e0 zs.length 76 sm _ hrt).mono ?_
  clear cv0 cv1 cv2 cv3
  rintro e w6 ⟨rfl, R6⟩
  have R6a := R6.alloc (.cells #[(.iface 76 (.pointer (some ⟨sm, 0, none⟩)))] 47)
  have s6 := R6.size
  have lc6 : w3.heap.size < w6.heap.size := by omega
  have cv0 : w6.cell? ⟨w3.heap.size, 0, none⟩ = some (.pointer (some ⟨rt, 0, none⟩)) := cell_of (R6.keep id hcv5) rfl
  have cv1 : w6.cell? ⟨w3.heap.size, 1, none⟩ = some (.iface 76 (.pointer (some ⟨sm, 0, none⟩))) := cell_of (R6.keep id hcv5) rfl
  have cv2 : w6.cell? ⟨w3.heap.size, 2, none⟩ = some (.iface 73 (.pointer (some ⟨ar, 0, none⟩))) := cell_of (R6.keep id hcv5) rfl
  have cv3 : w6.cell? ⟨w3.heap.size, 3, none⟩ = some (.slice (some ⟨e0, 0, none⟩) zs.length zs.length) := cell_of (R6.keep id hcv5) rfl
  go_wp2_with fail
  refine (sumArr rt sm ar e0 zs.length _).mono ?_
  clear cv0 cv1 cv2 cv3
  rintro e w7 ⟨rfl, q7⟩
  have R7 := R6a.trans q7
  have hvr7 := q7.keep id (h_new w6 (.cells #[(.iface 76 (.pointer (some ⟨sm, 0, none⟩)))] 47))
  have s7 := R7.size
  have s67 := q7.size
  rw [World.size_alloc] at s67
  have R7a := R7.alloc (.cells #[(.iface 73 (.pointer (some ⟨ar, 0, none⟩)))] 47)
  go_wp2_with fail
  refine (arrayLen ar 0 (some ⟨e0, 0, none⟩) zs.length zs.length _ (R7a.keep id harr5)).mono ?_
  rintro e w8 ⟨rfl, q8⟩
  have R8 := R7a.trans q8
  have hva8 := q8.keep id (h_new w7 (.cells #[(.iface 73 (.pointer (some ⟨ar, 0, none⟩)))] 47))
  have hvr8 := q8.keep id (h_old (.cells #[(.iface 73 (.pointer (some ⟨ar, 0, none⟩)))] 47) hvr7)
  have s78 := q8.size
  rw [World.size_alloc] at s78
  have s8 := R8.size
  clear R6 R6a R7 R7a q7 q8 hvr7
  have hcv8 := R8.keep id hcv5
  have harr8 := R8.keep id harr5
  have hels8 : ∀ i, i < zs.length → w8.cell? ⟨e0, i, none⟩ = some (.iface 59 (.pointer (some ⟨(e0 + 1) + i, 0, none⟩))) := fun i hi => (World.cell?_of_block (w := w5) (R8.block e0 id (World.block_lt_of_cell? _ _ (hels5 i hi)))).trans (hels5 i hi)
  go_wp2
  go_loopw [12] (fun vi wr => ∃ (i : Nat), i ≤ zs.length ∧ vi = .int .i64 i ∧ But (fun _ => False) w8 wr) (fun vi _ => zs.length - (intOf vi).toNat)
  case atStart => exact ⟨0, Nat.zero_le _, rfl, But.refl _ _⟩
  case round =>
    obtain ⟨i, hi, rfl, Q⟩ := hrel
    have sQ := Q.size
    by_cases hlt : i < zs.length
    · have lcr : w3.heap.size < wr.heap.size := by omega
      have lar : w7.heap.size < wr.heap.size := by omega
      have cv0 : wr.cell? ⟨w3.heap.size, 0, none⟩ = some (.pointer (some ⟨rt, 0, none⟩)) := cell_of (Q.keep id hcv8) rfl
      have cv1 : wr.cell? ⟨w3.heap.size, 1, none⟩ = some (.iface 76 (.pointer (some ⟨sm, 0, none⟩))) := cell_of (Q.keep id hcv8) rfl
      have cv2 : wr.cell? ⟨w3.heap.size, 2, none⟩ = some (.iface 73 (.pointer (some ⟨ar, 0, none⟩))) := cell_of (Q.keep id hcv8) rfl
      have cv3 : wr.cell? ⟨w3.heap.size, 3, none⟩ = some (.slice (some ⟨e0, 0, none⟩) zs.length zs.length) := cell_of (Q.keep id hcv8) rfl
      have ca0 : wr.cell? ⟨w7.heap.size, 0, none⟩ = some (.iface 73 (.pointer (some ⟨ar, 0, none⟩))) := cell_of (Q.keep id hva8) rfl
      have hcr : wr.drew.heap[w3.heap.size]? = some (.cells #[(.pointer (some ⟨rt, 0, none⟩)), (.iface 76 (.pointer (some ⟨sm, 0, none⟩))), (.iface 73 (.pointer (some ⟨ar, 0, none⟩))), .slice (some ⟨e0, 0, none⟩) zs.length zs.length] 43) := Q.keep id hcv8
      have har : wr.drew.heap[w7.heap.size]? = some (.cells #[(.iface 73 (.pointer (some ⟨ar, 0, none⟩)))] 47) := Q.keep id hva8
      have hrr : wr.drew.heap[ar]? = some (.cells (nodeC 0 #[.slice (some ⟨e0, 0, none⟩) zs.length zs.length]) 75 (0, 0)) := Q.keep id harr8
      have her : wr.drew.cell? ⟨e0, i, none⟩ = some (.iface 59 (.pointer (some ⟨(e0 + 1) + i, 0, none⟩))) := (World.cell?_of_block (w := w8) (Q.block e0 id (World.block_lt_of_cell? _ _ (hels8 i hlt)))).trans (hels8 i hlt)
      have leb := World.block_lt_of_cell? _ _ her
      go_wp2
      go_region_with (first | (go_at_call 12; (first | (refine (arrayElem ar 0 e0 zs.length i 59 (e0 + 1 + i) hlt _ hrr her).mono ?_; rintro e wa ⟨rfl, qa⟩; have dc := qa.keep id hcr; have dc0 := cell_of dc (j := 0) rfl; have dc1 := cell_of dc (j := 1) rfl; have dc2 := cell_of dc (j := 2) rfl; have dc3 := cell_of dc (j := 3) rfl; have de := (World.cell?_of_block (qa.block e0 id leb)).trans her) | (refine (arrayElem ar 0 e0 zs.length i 59 (e0 + 1 + i) hlt _ dr de).mono ?_; rintro e wa ⟨rfl, qa⟩))) | (go_at_call 13; (first | (refine (sumElem rt sm ar e0 zs.length i 59 (e0 + 1 + i) hlt _ her).mono ?_; rintro e wb ⟨rfl, qb⟩; have da0 := cell_of (qb.keep id har) (j := 0) rfl; have dr := qb.keep id hrr; have de := (World.cell?_of_block (qb.block e0 id leb)).trans her) | (refine (sumElem rt sm ar e0 zs.length i 59 (e0 + 1 + i) hlt _ de).mono ?_; rintro e wb ⟨rfl, qb⟩))) | (go_at_call 11; refine (zzSame isPI (e0 + 1 + i) _).mono ?_; rintro e wc ⟨rfl, qc⟩))
      all_goals
        have Q9 : But (fun _ => False) w8 wc := by first | exact ((Q.drew.trans qa).trans qb).trans qc | exact ((Q.drew.trans qb).trans qa).trans qc
        go_wp2
        go_roundw
        case rel => exact ⟨i + 1, by omega, by simp, Q9⟩
        case measure => simp [intOf]; omega
    · have hi3 : ¬ ((i : Int) < zs.length) := by omega
      have vr9 : wr.cell? ⟨w6.heap.size, 0, none⟩ = some (.iface 76 (.pointer (some ⟨sm, 0, none⟩))) := cell_of (Q.keep id hvr8) rfl
      have lvr : w6.heap.size < wr.heap.size := by omega
      have lva : w7.heap.size < wr.heap.size := by omega
      have lvc : w3.heap.size < wr.heap.size := by omega
      have hsm9 := Q.keep id (R8.keep id hsum5)
      go_wp2_with fail
      refine (builtinName sm 2 ⟨#[108, 101, 110]⟩ _ _ _ _ _ hsm9).mono ?_
      clear vr9
      rintro e wX ⟨rfl, qX⟩
      have kX := (R8.trans Q).trans qX
      have b_vr : wX.drew.heap[w6.heap.size]? = some (.cells #[(.iface 76 (.pointer (some ⟨sm, 0, none⟩)))] 47) := qX.keep id (Q.keep id hvr8)
      have b_va : wX.drew.heap[w7.heap.size]? = some (.cells #[(.iface 73 (.pointer (some ⟨ar, 0, none⟩)))] 47) := qX.keep id (Q.keep id hva8)
      have b_c : wX.drew.heap[w3.heap.size]? = some (.cells #[(.pointer (some ⟨rt, 0, none⟩)), (.iface 76 (.pointer (some ⟨sm, 0, none⟩))), (.iface 73 (.pointer (some ⟨ar, 0, none⟩))), .slice (some ⟨e0, 0, none⟩) zs.length zs.length] 43) := qX.keep id (Q.keep id hcv8)
      have b_sm : wX.drew.heap[sm]? = some (.cells (nodeC 2 #[.string ⟨#[108, 101, 110]⟩, .slice (some ⟨ag, 0, none⟩) 1 ca, .bool false, .nilIface, .pointer none]) 79 (0, 0)) := qX.keep id hsm9
      have b_ag : wX.drew.cell? ⟨ag, 0, none⟩ = some (.iface 73 (.pointer (some ⟨ar, 0, none⟩))) := (World.cell?_of_block (w := w5) (kX.block ag id (World.block_lt_of_cell? _ _ hargs5))).trans hargs5
      have lag := World.block_lt_of_cell? _ _ b_ag
      have x_vr : wX.cell? ⟨w6.heap.size, 0, none⟩ = some (.iface 76 (.pointer (some ⟨sm, 0, none⟩))) := cell_of b_vr rfl
      have x_c0 : wX.cell? ⟨w3.heap.size, 0, none⟩ = some (.pointer (some ⟨rt, 0, none⟩)) := cell_of b_c rfl
      have x_c1 : wX.cell? ⟨w3.heap.size, 1, none⟩ = some (.iface 76 (.pointer (some ⟨sm, 0, none⟩))) := cell_of b_c rfl
      have x_c2 : wX.cell? ⟨w3.heap.size, 2, none⟩ = some (.iface 73 (.pointer (some ⟨ar, 0, none⟩))) := cell_of b_c rfl
      have x_c3 : wX.cell? ⟨w3.heap.size, 3, none⟩ = some (.slice (some ⟨e0, 0, none⟩) zs.length zs.length) := cell_of b_c rfl
      have HB : Hid _ := And.intro B5 kX
      clear B5 kX Q R8 qX hels5 hels8 harr5 harr8 hcv5 hcv8 hva8 hvr8 hargs5 hsum5 hsm9 hrt sQ s5 s6 s67 s7 s78 s8 lc6 lvr lva lvc hi3 hlt hi
      go_wp2
      have S0 : wX.drew.cell? ⟨w6.heap.size, 0, none⟩ = some (.iface 76 (.pointer (some ⟨sm, 0, none⟩))) ∧ wX.drew.cell? ⟨w7.heap.size, 0, none⟩ = some (.iface 73 (.pointer (some ⟨ar, 0, none⟩))) ∧ wX.drew.cell? ⟨w3.heap.size, 0, none⟩ = some (.pointer (some ⟨rt, 0, none⟩)) ∧ wX.drew.cell? ⟨w3.heap.size, 1, none⟩ = some (.iface 76 (.pointer (some ⟨sm, 0, none⟩))) ∧ wX.drew.cell? ⟨w3.heap.size, 2, none⟩ = some (.iface 73 (.pointer (some ⟨ar, 0, none⟩))) ∧ wX.drew.cell? ⟨w3.heap.size, 3, none⟩ = some (.slice (some ⟨e0, 0, none⟩) zs.length zs.length) := ⟨cell_of (id b_vr) rfl, cell_of (id b_va) rfl, cell_of (id b_c) rfl, cell_of (id b_c) rfl, cell_of (id b_c) rfl, cell_of (id b_c) rfl⟩
      go_region_held3 (fun w' => w'.cell? ⟨w6.heap.size, 0, none⟩ = some (.iface 76 (.pointer (some ⟨sm, 0, none⟩))) ∧ w'.cell? ⟨w7.heap.size, 0, none⟩ = some (.iface 73 (.pointer (some ⟨ar, 0, none⟩))) ∧ w'.cell? ⟨w3.heap.size, 0, none⟩ = some (.pointer (some ⟨rt, 0, none⟩)) ∧ w'.cell? ⟨w3.heap.size, 1, none⟩ = some (.iface 76 (.pointer (some ⟨sm, 0, none⟩))) ∧ w'.cell? ⟨w3.heap.size, 2, none⟩ = some (.iface 73 (.pointer (some ⟨ar, 0, none⟩))) ∧ w'.cell? ⟨w3.heap.size, 3, none⟩ = some (.slice (some ⟨e0, 0, none⟩) zs.length zs.length)) (first | exact S0 | exact S1 | exact S2 | exact S3 | exact S4 | exact S5) (first | (go_at_call 15; refine (sumNode rt sm ar e0 zs.length _).mono ?_; rintro e wA ⟨rfl, qA⟩; have S1 : wA.cell? ⟨w6.heap.size, 0, none⟩ = some (.iface 76 (.pointer (some ⟨sm, 0, none⟩))) ∧ wA.cell? ⟨w7.heap.size, 0, none⟩ = some (.iface 73 (.pointer (some ⟨ar, 0, none⟩))) ∧ wA.cell? ⟨w3.heap.size, 0, none⟩ = some (.pointer (some ⟨rt, 0, none⟩)) ∧ wA.cell? ⟨w3.heap.size, 1, none⟩ = some (.iface 76 (.pointer (some ⟨sm, 0, none⟩))) ∧ wA.cell? ⟨w3.heap.size, 2, none⟩ = some (.iface 73 (.pointer (some ⟨ar, 0, none⟩))) ∧ wA.cell? ⟨w3.heap.size, 3, none⟩ = some (.slice (some ⟨e0, 0, none⟩) zs.length zs.length) := ⟨cell_of (qA.keep id b_vr) rfl, cell_of (qA.keep id b_va) rfl, cell_of (qA.keep id b_c) rfl, cell_of (qA.keep id b_c) rfl, cell_of (qA.keep id b_c) rfl, cell_of (qA.keep id b_c) rfl⟩) | (go_at_call 11; refine (zzSame isPU sm _).mono ?_; rintro e wB ⟨rfl, qB⟩; have kB := qA.trans qB; have smB := kB.keep id b_sm; have S2 : wB.cell? ⟨w6.heap.size, 0, none⟩ = some (.iface 76 (.pointer (some ⟨sm, 0, none⟩))) ∧ wB.cell? ⟨w7.heap.size, 0, none⟩ = some (.iface 73 (.pointer (some ⟨ar, 0, none⟩))) ∧ wB.cell? ⟨w3.heap.size, 0, none⟩ = some (.pointer (some ⟨rt, 0, none⟩)) ∧ wB.cell? ⟨w3.heap.size, 1, none⟩ = some (.iface 76 (.pointer (some ⟨sm, 0, none⟩))) ∧ wB.cell? ⟨w3.heap.size, 2, none⟩ = some (.iface 73 (.pointer (some ⟨ar, 0, none⟩))) ∧ wB.cell? ⟨w3.heap.size, 3, none⟩ = some (.slice (some ⟨e0, 0, none⟩) zs.length zs.length) := ⟨cell_of (kB.keep id b_vr) rfl, cell_of (kB.keep id b_va) rfl, cell_of (kB.keep id b_c) rfl, cell_of (kB.keep id b_c) rfl, cell_of (kB.keep id b_c) rfl, cell_of (kB.keep id b_c) rfl⟩) | (go_at_call 16; refine (builtinArgCount sm 2 (some ⟨ag, 0, none⟩) 1 ca _ _ _ _ _ smB).mono ?_; rintro e wC ⟨rfl, qC⟩; have kC := kB.trans qC; have smC := kC.keep id b_sm; have agC := (World.cell?_of_block (kC.block ag id lag)).trans b_ag; have S3 : wC.cell? ⟨w6.heap.size, 0, none⟩ = some (.iface 76 (.pointer (some ⟨sm, 0, none⟩))) ∧ wC.cell? ⟨w7.heap.size, 0, none⟩ = some (.iface 73 (.pointer (some ⟨ar, 0, none⟩))) ∧ wC.cell? ⟨w3.heap.size, 0, none⟩ = some (.pointer (some ⟨rt, 0, none⟩)) ∧ wC.cell? ⟨w3.heap.size, 1, none⟩ = some (.iface 76 (.pointer (some ⟨sm, 0, none⟩))) ∧ wC.cell? ⟨w3.heap.size, 2, none⟩ = some (.iface 73 (.pointer (some ⟨ar, 0, none⟩))) ∧ wC.cell? ⟨w3.heap.size, 3, none⟩ = some (.slice (some ⟨e0, 0, none⟩) zs.length zs.length) := ⟨cell_of (kC.keep id b_vr) rfl, cell_of (kC.keep id b_va) rfl, cell_of (kC.keep id b_c) rfl, cell_of (kC.keep id b_c) rfl, cell_of (kC.keep id b_c) rfl, cell_of (kC.keep id b_c) rfl⟩) | (go_at_call 17; refine (builtinArg0 sm 2 ag 1 ca 73 ar _ _ _ _ (by decide) _ smC agC).mono ?_; rintro e wD ⟨rfl, qD⟩; have kD := kC.trans qD; have S4 : wD.cell? ⟨w6.heap.size, 0, none⟩ = some (.iface 76 (.pointer (some ⟨sm, 0, none⟩))) ∧ wD.cell? ⟨w7.heap.size, 0, none⟩ = some (.iface 73 (.pointer (some ⟨ar, 0, none⟩))) ∧ wD.cell? ⟨w3.heap.size, 0, none⟩ = some (.pointer (some ⟨rt, 0, none⟩)) ∧ wD.cell? ⟨w3.heap.size, 1, none⟩ = some (.iface 76 (.pointer (some ⟨sm, 0, none⟩))) ∧ wD.cell? ⟨w3.heap.size, 2, none⟩ = some (.iface 73 (.pointer (some ⟨ar, 0, none⟩))) ∧ wD.cell? ⟨w3.heap.size, 3, none⟩ = some (.slice (some ⟨e0, 0, none⟩) zs.length zs.length) := ⟨cell_of (kD.keep id b_vr) rfl, cell_of (kD.keep id b_va) rfl, cell_of (kD.keep id b_c) rfl, cell_of (kD.keep id b_c) rfl, cell_of (kD.keep id b_c) rfl, cell_of (kD.keep id b_c) rfl⟩) | (go_at_call 11; refine (zzSame isPA ar _).mono ?_; rintro e wE ⟨rfl, qE⟩; have S5 : wE.cell? ⟨w6.heap.size, 0, none⟩ = some (.iface 76 (.pointer (some ⟨sm, 0, none⟩))) ∧ wE.cell? ⟨w7.heap.size, 0, none⟩ = some (.iface 73 (.pointer (some ⟨ar, 0, none⟩))) ∧ wE.cell? ⟨w3.heap.size, 0, none⟩ = some (.pointer (some ⟨rt, 0, none⟩)) ∧ wE.cell? ⟨w3.heap.size, 1, none⟩ = some (.iface 76 (.pointer (some ⟨sm, 0, none⟩))) ∧ wE.cell? ⟨w3.heap.size, 2, none⟩ = some (.iface 73 (.pointer (some ⟨ar, 0, none⟩))) ∧ wE.cell? ⟨w3.heap.size, 3, none⟩ = some (.slice (some ⟨e0, 0, none⟩) zs.length zs.length) := ⟨cell_of ((kD.trans qE).keep id b_vr) rfl, cell_of ((kD.trans qE).keep id b_va) rfl, cell_of ((kD.trans qE).keep id b_c) rfl, cell_of ((kD.trans qE).keep id b_c) rfl, cell_of ((kD.trans qE).keep id b_c) rfl, cell_of ((kD.trans qE).keep id b_c) rfl⟩))
      all_goals
        obtain ⟨B5, kX⟩ := HB.out
        go_wp2
        go_ret
        exact ⟨rfl, B5.trans (((kX.drew.trans kD).trans qE).below (B := w0.heap.size) B5.size (fun _ h => h.elim))⟩
end Go.Proofs.YtkgllpdcpmcmoaaReflFmt.opt
