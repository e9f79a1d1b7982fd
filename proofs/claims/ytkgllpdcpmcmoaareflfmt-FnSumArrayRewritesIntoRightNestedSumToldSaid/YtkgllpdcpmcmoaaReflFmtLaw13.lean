/-
The law's walk: FnSumArrayRewritesIntoRightNestedSum returns true where the slice is no nil and has two elements or more. No condition.
-/
import Derived.Test.YtkgllpdcpmcmoaaReflFmtSumD
namespace Go.Proofs.YtkgllpdcpmcmoaaReflFmt.opt
open Go Go.Proofs Go.RowKit
set_option maxRecDepth 100000
set_option maxHeartbeats 40000000
theorem law13_mid (ad : Addr) (c : Nat) (zs : List Int) (h2 : 2 ≤ zs.length) (hn : zs.length ≤ 4096) (t : Nat) (ht : t ≤ 4) (w : World)
    (hsrc : ∀ j, j < zs.length → w.cell? (ad.add j) = some (.int .i64 (zs.getD j 0))) :
    Calls Tryr.prog 4 #[.slice (some ad) zs.length c, .int .i64 t] w fun e w' => e = .returned (.bool true) ∧ Below w.heap.size w w' := by
  have hb1 : (!decide ((1048576 : Int) < zs.length)) = true := by simp; omega
  have hs1 : ¬ ((4096 : Int) < zs.length) := by omega
  have ht1 : ¬ ((t : Int) < 0) := by omega
  have ht2 : ¬ ((4 : Int) < t) := by omega
  have hs2 : ¬ ((zs.length : Int) < 2) := by omega
  have qT : ∀ (w : World) (a : Option Addr) (n c n' c' : Nat), (Go.binOp .neq 36 (.slice a n c) (.slice none n' c')).run Tryr.prog w = .ok (.bool (!a.isNone)) w := fun w a n c n' c' => run_neq_slice_nil_any w _ _ a n c n' c' Tryr.underlying36
  have hm := run_make_row' (P := Tryr.prog) 36 3 (.int .i64 0) 8 Tryr.underlying36 infoI rfl .i64 .i64 zs.length (by omega) (by omega)
  go_enter Tryr.func4, Tryr.ntmps4
  go_wp2_with fail
  refine (bytes13 _ _ _ _ _).mono ?_
  rintro e w0 ⟨rfl, rfl⟩
  rw [hb1]
  have hsrc2 : ∀ (j : Nat) v, (zs.map (Value.int .i64))[j]? = some v → (w0.alloc (.cells (madeCells #[.int .i64 0] zs.length) 3)).cell? (ad.add j) = some v := by
    intro j v hj
    have hjl : j < zs.length := by
      have := (List.getElem?_eq_some_iff.1 hj).1
      simpa using this
    have e : v = .int .i64 (zs.getD j 0) := by
      simp [hjl] at hj
      rw [← hj]; simp [List.getD_eq_getElem?_getD, hjl]
    rw [e]
    exact up (hsrc j hjl)
  have hone : ∀ v ∈ zs.map (Value.int .i64), v.oneCell' = true := by
    intro v hv
    obtain ⟨z, _, rfl⟩ := List.mem_map.1 hv
    rfl
  have hcp : (Builtin.copy_ #[36, 36] 3 #[.slice (some ⟨w0.heap.size, 0, none⟩) zs.length zs.length, .slice (some ad) zs.length c]).run Tryr.prog (w0.alloc (.cells (madeCells #[.int .i64 0] zs.length) 3)) = .ok (goInt zs.length) (w0.alloc (.cells (zs.map (Value.int .i64)).toArray 3)) := by
    have key := run_copy_row (P := Tryr.prog) (w0.alloc (.cells (madeCells #[.int .i64 0] zs.length) 3)) 36 36 3 3 w0.heap.size 0 zs.length zs.length ad zs.length c (madeCells #[.int .i64 0] zs.length) 3 (zs.map (Value.int .i64)) Tryr.underlying36 infoI1 (h_new _ _) (by simp) hsrc2 (by simp [madeCells]) hone
    rw [World.setRow_alloc_new] at key
    have e : ((madeCells #[Value.int .i64 0] zs.length).toList.take 0 ++ zs.map (Value.int .i64) ++ (madeCells #[Value.int .i64 0] zs.length).toList.drop (0 + (zs.map (Value.int .i64)).length)).toArray = (zs.map (Value.int .i64)).toArray := by
      have hd : (madeCells #[Value.int .i64 0] zs.length).toList.drop (0 + (zs.map (Value.int .i64)).length) = [] := List.drop_eq_nil_of_le (by simp [madeCells])
      rw [hd]; simp
    rw [e, List.length_map] at key
    exact key
  clear hsrc hsrc2 hone
  have hv : (w0.alloc (.cells (zs.map (Value.int .i64)).toArray 3)).heap[w0.heap.size]? = some (.cells (zs.map (Value.int .i64)).toArray 3 (0, 0)) := h_new _ _
  have hvals : ∀ j, j < zs.length → (w0.alloc (.cells (zs.map (Value.int .i64)).toArray 3)).cell? ⟨w0.heap.size, 0 + j, none⟩ = some (.int .i64 (zs.getD j 0)) := fun j hj => cell_of hv (by simp [List.getD_eq_getElem?_getD, hj])
  have hb2 : Below w0.heap.size w0 (w0.alloc (.cells (zs.map (Value.int .i64)).toArray 3)) := (Below.refl _ _).alloc (Nat.le_refl _) _
  have lv := lt_of hv
  go_wp2_with fail
  refine (buildSum ⟨#[115, 117, 109]⟩ t ht (some ⟨w0.heap.size, 0, none⟩) w0.heap.size 0 zs.length zs (.inr rfl) hn _ (fun _ => lv) hvals).mono ?_
  clear hcp hm qT
  rintro e w3 ⟨rt, sm, ar, ag, ca, e0, rfl, hS0, o1, o2, o3, o4, o5, o6, q3⟩
  have hS : SumAt w3 ⟨#[115, 117, 109]⟩ t rt sm ar ag 1 ca e0 zs := hS0
  have hS4 := hS.keep ((But.refl (fun _ => False) w3).alloc (.cells #[(.pointer (some ⟨rt, 0, none⟩)), (.iface 76 (.pointer (some ⟨sm, 0, none⟩))), (.iface 73 (.pointer (some ⟨ar, 0, none⟩))), .slice (some ⟨e0, 0, none⟩) zs.length zs.length] 43)) (fun _ h => h.elim)
  have hcv := h_new w3 (.cells #[(.pointer (some ⟨rt, 0, none⟩)), (.iface 76 (.pointer (some ⟨sm, 0, none⟩))), (.iface 73 (.pointer (some ⟨ar, 0, none⟩))), .slice (some ⟨e0, 0, none⟩) zs.length zs.length] 43)
  have hv4 := h_old (.cells #[(.pointer (some ⟨rt, 0, none⟩)), (.iface 76 (.pointer (some ⟨sm, 0, none⟩))), (.iface 73 (.pointer (some ⟨ar, 0, none⟩))), .slice (some ⟨e0, 0, none⟩) zs.length zs.length] 43) (q3.keep id hv)
  have B4 := (hb2.trans (q3.below hb2.size (fun _ h => h.elim))).alloc (Nat.le_trans hb2.size q3.size) (.cells #[(.pointer (some ⟨rt, 0, none⟩)), (.iface 76 (.pointer (some ⟨sm, 0, none⟩))), (.iface 73 (.pointer (some ⟨ar, 0, none⟩))), .slice (some ⟨e0, 0, none⟩) zs.length zs.length] 43)
  have lrt := lt_of hS.root
  have l23 := q3.size
  rw [World.size_alloc] at l23 o1 lv
  clear hS0 hS q3 hv hvals hb2
  have cv0 : (w3.alloc (.cells #[(.pointer (some ⟨rt, 0, none⟩)), (.iface 76 (.pointer (some ⟨sm, 0, none⟩))), (.iface 73 (.pointer (some ⟨ar, 0, none⟩))), .slice (some ⟨e0, 0, none⟩) zs.length zs.length] 43)).cell? ⟨w3.heap.size, 0, none⟩ = some (.pointer (some ⟨rt, 0, none⟩)) := cell_of hcv rfl
  go_wp2_with fail
  refine (zzVisit rt sm ar e0 zs _ (fun w' => ∃ r, But (fun k => k = rt) (w3.alloc (.cells #[(.pointer (some ⟨rt, 0, none⟩)), (.iface 76 (.pointer (some ⟨sm, 0, none⟩))), (.iface 73 (.pointer (some ⟨ar, 0, none⟩))), .slice (some ⟨e0, 0, none⟩) zs.length zs.length] 43)) w' ∧ w'.heap[rt]? = some (.cells #[(.iface 87 (.pointer (some ⟨r, 0, none⟩)))] 40 (0, 0)) ∧ Chain w' (e0 + 1) w3.heap.size (zs.length - 2) 0 (ans t) r) (fun x w1 q1 => ?_)).mono ?_
  · refine (visit_fire x t rt sm ar ag ca e0 zs ht w1 (hS4.keep q1 (fun _ h => h.elim)) h2 hn).mono ?_
    rintro e w' ⟨rfl, r, k1, k2, k3⟩
    exact ⟨rfl, r, (q1.mono (fun _ h => h.elim)).trans k1, k2, k3.lower (by have := q1.size; simp at this; omega)⟩
  rintro e w5 ⟨rfl, r0, q5, hrt, hch⟩
  have hcv5 := q5.keep (by omega) hcv
  have hv5 := q5.keep (by omega) hv4
  have hels5 : ∀ i, i < zs.length → w5.cell? ⟨e0, i, none⟩ = some (.iface 59 (.pointer (some ⟨(e0 + 1) + i, 0, none⟩))) := fun i hi => (World.cell?_of_block (w := w3.alloc (.cells #[(.pointer (some ⟨rt, 0, none⟩)), (.iface 76 (.pointer (some ⟨sm, 0, none⟩))), (.iface 73 (.pointer (some ⟨ar, 0, none⟩))), .slice (some ⟨e0, 0, none⟩) zs.length zs.length] 43)) (q5.block e0 (by omega) (World.block_lt_of_cell? _ _ (hS4.els i hi)))).trans (hS4.els i hi)
  have hints5 : ∀ i, i < zs.length → w5.heap[(e0 + 1 + i)]? = some (.cells (nodeC 0 #[.int .i64 (zs.getD i 0)]) 72 (0, 0)) := fun i hi => q5.keep (by omega) (hS4.ints i hi)
  have B5 := B4.trans (q5.below (B := w0.heap.size) B4.size (by intro k hk; omega))
  obtain ⟨fs0, hr0, _⟩ := hch.retop
  have lr0 := lt_of hr0
  have l5 := lt_of hcv5
  clear hr0 hS4 hcv hv4 B4 q5 cv0
  have cv0 : w5.cell? ⟨w3.heap.size, 0, none⟩ = some (.pointer (some ⟨rt, 0, none⟩)) := cell_of hcv5 rfl
  have cv1 : w5.cell? ⟨w3.heap.size, 1, none⟩ = some (.iface 76 (.pointer (some ⟨sm, 0, none⟩))) := cell_of hcv5 rfl
  have cv2 : w5.cell? ⟨w3.heap.size, 2, none⟩ = some (.iface 73 (.pointer (some ⟨ar, 0, none⟩))) := cell_of hcv5 rfl
  have cv3 : w5.cell? ⟨w3.heap.size, 3, none⟩ = some (.slice (some ⟨e0, 0, none⟩) zs.length zs.length) := cell_of hcv5 rfl
  go_wp2_with fail
  refine (sumRoot rt sm ar e0 zs.length 87 r0 _ hrt).mono ?_
  rintro e w6 ⟨rfl, q6⟩
  have hch6 := hch.keep q6 (fun _ _ _ h => h)
  have hcv6 := q6.keep id hcv5
  have hv6 := q6.keep id hv5
  have hels6 : ∀ i, i < zs.length → w6.cell? ⟨e0, i, none⟩ = some (.iface 59 (.pointer (some ⟨(e0 + 1) + i, 0, none⟩))) := fun i hi => (World.cell?_of_block (w := w5) (q6.block e0 id (World.block_lt_of_cell? _ _ (hels5 i hi)))).trans (hels5 i hi)
  have hints6 : ∀ i, i < zs.length → w6.heap[(e0 + 1 + i)]? = some (.cells (nodeC 0 #[.int .i64 (zs.getD i 0)]) 72 (0, 0)) := fun i hi => q6.keep id (hints5 i hi)
  have B6 := B5.trans (q6.below (B := w0.heap.size) B5.size (fun _ h => h.elim))
  have l6 := q6.size
  clear hch hcv5 hv5 hels5 hints5 B5 q6 cv0 cv1 cv2 cv3 hrt
  have hcurL := h_new1 w6 (.cells #[(.iface 87 (.pointer (some ⟨r0, 0, none⟩)))] 47) (.cells #[(.iface 87 (.pointer (some ⟨r0, 0, none⟩)))] 47)
  have hchL := hch6.keep (((But.refl (fun _ => False) w6).alloc (.cells #[(.iface 87 (.pointer (some ⟨r0, 0, none⟩)))] 47)).alloc (.cells #[(.iface 87 (.pointer (some ⟨r0, 0, none⟩)))] 47)) (fun _ _ _ h => h)
  have hcvL := h_old (.cells #[(.iface 87 (.pointer (some ⟨r0, 0, none⟩)))] 47) (h_old (.cells #[(.iface 87 (.pointer (some ⟨r0, 0, none⟩)))] 47) hcv6)
  have hvL := h_old (.cells #[(.iface 87 (.pointer (some ⟨r0, 0, none⟩)))] 47) (h_old (.cells #[(.iface 87 (.pointer (some ⟨r0, 0, none⟩)))] 47) hv6)
  have helsL : ∀ i, i < zs.length → ((w6.alloc (.cells #[(.iface 87 (.pointer (some ⟨r0, 0, none⟩)))] 47)).alloc (.cells #[(.iface 87 (.pointer (some ⟨r0, 0, none⟩)))] 47)).cell? ⟨e0, i, none⟩ = some (.iface 59 (.pointer (some ⟨(e0 + 1) + i, 0, none⟩))) := fun i hi => up (up (hels6 i hi))
  have hintsL : ∀ i, i < zs.length → ((w6.alloc (.cells #[(.iface 87 (.pointer (some ⟨r0, 0, none⟩)))] 47)).alloc (.cells #[(.iface 87 (.pointer (some ⟨r0, 0, none⟩)))] 47)).heap[(e0 + 1 + i)]? = some (.cells (nodeC 0 #[.int .i64 (zs.getD i 0)]) 72 (0, 0)) := fun i hi => h_old _ (h_old _ (hints6 i hi))
  have BL := (B6.alloc B6.size (.cells #[(.iface 87 (.pointer (some ⟨r0, 0, none⟩)))] 47)).alloc (B6.alloc B6.size (.cells #[(.iface 87 (.pointer (some ⟨r0, 0, none⟩)))] 47)).size (.cells #[(.iface 87 (.pointer (some ⟨r0, 0, none⟩)))] 47)
  clear hch6 hcv6 hv6 hels6 hints6 B6
  have lr6 : r0 < w6.heap.size := by omega
  have lc6 : w3.heap.size < w6.heap.size := by omega
  have sL : w6.heap.size + 2 ≤ ((w6.alloc (.cells #[(.iface 87 (.pointer (some ⟨r0, 0, none⟩)))] 47)).alloc (.cells #[(.iface 87 (.pointer (some ⟨r0, 0, none⟩)))] 47)).heap.size := by simp
  clear l5 l6 lr0
  go_wp2
  generalize ((w6.alloc (.cells #[(.iface 87 (.pointer (some ⟨r0, 0, none⟩)))] 47)).alloc (.cells #[(.iface 87 (.pointer (some ⟨r0, 0, none⟩)))] 47)) = wL at *
  go_loopw [10] (fun vi wr => ∃ (i r : Nat), i + 1 ≤ zs.length ∧ vi = .int .i64 i ∧ But (fun k => k = w6.heap.size + 1) wL wr ∧ (i + 1 < zs.length → r < w6.heap.size ∧ wr.heap[w6.heap.size + 1]? = some (.cells #[(.iface 87 (.pointer (some ⟨r, 0, none⟩)))] 47 (0, 0)) ∧
      Chain wL (e0 + 1) w3.heap.size (zs.length - 2 - i) i (if i = 0 then ans t else 0) r))
    (fun vi _ => zs.length - (intOf vi).toNat)
  case atStart => exact ⟨0, r0, by omega, rfl, But.refl _ _, fun _ => ⟨lr6, hcurL, by rw [Nat.sub_zero, if_pos rfl]; exact hchL⟩⟩
  case round =>
    obtain ⟨i, r, hi, rfl, Q, hrel⟩ := hrel
    clear hcurL hchL lr6
    have sQ := Q.size
    by_cases hlt : i + 1 < zs.length
    · obtain ⟨lr, hcur, hch⟩ := hrel hlt
      clear hrel
      obtain ⟨T, b, hT, hnode, hk0, hks⟩ := hch.node
      clear hch
      have hln0 : i < zs.length := by omega
      have hi1 := hintsL i hln0
      have hv1 : wL.cell? ⟨w0.heap.size, i, none⟩ = some (.int .i64 (zs.getD i 0)) := cell_of hvL (by simp [List.getD_eq_getElem?_getD, hln0])
      generalize zs.getD i 0 = z at hi1 hv1
      by_cases hk : i + 2 = zs.length
      · obtain ⟨rfl, hb⟩ := hk0 (by omega)
        obtain rfl : b = e0 + 1 + (i + 1) := hb
        clear hk0 hks
        have hi2 := hintsL (i + 1) (by omega)
        have hv2 : wL.cell? ⟨w0.heap.size, i + 1, none⟩ = some (.int .i64 (zs.getD (i + 1) 0)) := cell_of hvL (by simp [List.getD_eq_getElem?_getD, hlt])
        generalize zs.getD (i + 1) 0 = y at hi2 hv2
        have hkl : i + 2 ≤ zs.length := Nat.le_of_eq hk
        have hku : zs.length ≤ i + 2 := Nat.le_of_eq hk.symm
        clear hk
        by_cases hi0 : i = 0
        · subst hi0
          rw [if_pos rfl] at hnode
          have hlt1 : (0 : Int) < (zs.length : Int) - 1 := by omega
          have hln : 0 < zs.length := by omega
          have R7 := But.refl (fun _ => False) wr
          have cu7 : wr.cell? ⟨w6.heap.size + 1, 0, none⟩ = some (.iface 87 (.pointer (some ⟨r, 0, none⟩))) := cell_of hcur rfl
          go_wp2_with fail
          refine (binOp r (ans t) ⟨#[43]⟩ _ _ _ (Q.keep (by omega) hnode)).mono ?_
          rintro e w8 ⟨rfl, R8⟩
          have Q8 := Q.trans (R8.mono (fun _ h => h.elim))
          have s8 := Q8.size
          have lc8 : w3.heap.size < w8.heap.size := by omega
          have lu8 : w6.heap.size + 1 < w8.heap.size := by omega
          have lz8 : w0.heap.size < w8.heap.size := by omega
          have cu8 : w8.cell? ⟨w6.heap.size + 1, 0, none⟩ = some (.iface 87 (.pointer (some ⟨r, 0, none⟩))) := cell_of (R8.keep id hcur) rfl
          clear cu7 hlt1
          go_wp2_with fail
          have key := typeTag isPB r (ans t) 90 (by exact ans_le _ (by omega)) #[(.string ⟨#[43]⟩), (.iface 59 (.pointer (some ⟨e0 + 1 + 0, 0, none⟩))), (.iface 59 (.pointer (some ⟨(e0 + 1 + (0 + 1)), 0, none⟩)))] _ (Q8.keep (by omega) hnode)
          rw [tag_ans t ht] at key
          refine key.mono ?_
          clear key cu8
          rintro e w9 ⟨rfl, q9⟩
          have R9 := R8.trans q9
          have Q9 := Q.trans (R9.mono (fun _ h => h.elim))
          have s9 := Q9.size
          have lc9 : w3.heap.size < w9.heap.size := by omega
          have lu9 : w6.heap.size + 1 < w9.heap.size := by omega
          have lz9 : w0.heap.size < w9.heap.size := by omega
          have cu9 : w9.cell? ⟨w6.heap.size + 1, 0, none⟩ = some (.iface 87 (.pointer (some ⟨r, 0, none⟩))) := cell_of (R9.keep id hcur) rfl
          go_wp2_with fail
          refine (binLeft r (ans t) (.string ⟨#[43]⟩) (.iface 59 (.pointer (some ⟨(e0 + 1 + (0 + 1)), 0, none⟩))) 59 (e0 + 1 + 0) _ (Q9.keep (by omega) hnode)).mono ?_
          clear cu9
          rintro e w10 ⟨rfl, q10⟩
          have R10 := R9.trans q10
          have Q10 := Q.trans (R10.mono (fun _ h => h.elim))
          have s10 := Q10.size
          have lc10 : w3.heap.size < w10.heap.size := by omega
          have lu10 : w6.heap.size + 1 < w10.heap.size := by omega
          have lz10 : w0.heap.size < w10.heap.size := by omega
          have cv0 : w10.cell? ⟨w3.heap.size, 0, none⟩ = some (.pointer (some ⟨rt, 0, none⟩)) := cell_of (Q10.keep (by omega) hcvL) rfl
          have cv1 : w10.cell? ⟨w3.heap.size, 1, none⟩ = some (.iface 76 (.pointer (some ⟨sm, 0, none⟩))) := cell_of (Q10.keep (by omega) hcvL) rfl
          have cv2 : w10.cell? ⟨w3.heap.size, 2, none⟩ = some (.iface 73 (.pointer (some ⟨ar, 0, none⟩))) := cell_of (Q10.keep (by omega) hcvL) rfl
          have cv3 : w10.cell? ⟨w3.heap.size, 3, none⟩ = some (.slice (some ⟨e0, 0, none⟩) zs.length zs.length) := cell_of (Q10.keep (by omega) hcvL) rfl
          have hl10 : (w10.alloc (.cells #[(.iface 59 (.pointer (some ⟨e0 + 1 + 0, 0, none⟩)))] 47)).drew.heap[w10.heap.size]? = some (.cells #[(.iface 59 (.pointer (some ⟨e0 + 1 + 0, 0, none⟩)))] 47) := h_new w10 (.cells #[(.iface 59 (.pointer (some ⟨e0 + 1 + 0, 0, none⟩)))] 47)
          have hel10 : (w10.alloc (.cells #[(.iface 59 (.pointer (some ⟨e0 + 1 + 0, 0, none⟩)))] 47)).drew.cell? ⟨e0, 0, none⟩ = some (.iface 59 (.pointer (some ⟨e0 + 1 + 0, 0, none⟩))) := up ((World.cell?_of_block (w := wL) (Q10.block e0 (by omega) (by omega))).trans (helsL 0 hln))
          go_wp2
          go_region_with (first | (go_at_call 13; refine (sumElemZ rt sm ar e0 zs.length 0 59 (e0 + 1 + 0) _ (by simp) hln _ hel10).mono ?_; rintro e w12 ⟨rfl, q12⟩; have m12 := cell_of (q12.keep id hl10) (j := 0) rfl) | (go_at_call 11; refine (zzSame isPI (e0 + 1 + 0) _).mono ?_; rintro e w13 ⟨rfl, q13⟩))
          all_goals
            have R13 := (((R10.alloc (.cells #[(.iface 59 (.pointer (some ⟨e0 + 1 + 0, 0, none⟩)))] 47)).drew).trans q12).trans q13
            have hl13 := q13.keep id (q12.keep id hl10)
            clear m12 hl10 hel10 cv0 cv1 cv2 cv3 q12 q13
            have Q13 := Q.trans (R13.mono (fun _ h => h.elim))
            have s13 := Q13.size
            have lc13 : w3.heap.size < w13.heap.size := by omega
            have lu13 : w6.heap.size + 1 < w13.heap.size := by omega
            have lz13 : w0.heap.size < w13.heap.size := by omega
            have cl13 := cell_of hl13 (j := 0) rfl
            go_wp2_with fail
            refine (intValue (e0 + 1 + 0) 0 z _ (Q13.keep (by omega) hi1)).mono ?_
            clear cl13
            rintro e w14 ⟨rfl, q14⟩
            have R14 := R13.trans q14
            have Q14 := Q.trans (R14.mono (fun _ h => h.elim))
            have s14 := Q14.size
            have lc14 : w3.heap.size < w14.heap.size := by omega
            have lu14 : w6.heap.size + 1 < w14.heap.size := by omega
            have lz14 : w0.heap.size < w14.heap.size := by omega
            have cu14 : w14.cell? ⟨w6.heap.size + 1, 0, none⟩ = some (.iface 87 (.pointer (some ⟨r, 0, none⟩))) := cell_of (R14.keep id hcur) rfl
            have vv14 : w14.cell? ⟨w0.heap.size, 0, none⟩ = some (.int .i64 z) := (World.cell?_of_block (w := wL) (Q14.block w0.heap.size (by omega) (by omega))).trans hv1
            go_wp2_with fail
            refine (binRight r (ans t) (.string ⟨#[43]⟩) (.iface 59 (.pointer (some ⟨e0 + 1 + 0, 0, none⟩))) 59 (e0 + 1 + (0 + 1)) _ (Q14.keep (by omega) hnode)).mono ?_
            clear cu14 vv14
            rintro e w15 ⟨rfl, q15⟩
            have R15 := R14.trans q15
            have Q15 := Q.trans (R15.mono (fun _ h => h.elim))
            have s15 := Q15.size
            have lc15 : w3.heap.size < w15.heap.size := by omega
            have lu15 : w6.heap.size + 1 < w15.heap.size := by omega
            have lz15 : w0.heap.size < w15.heap.size := by omega
            have cv0 : w15.cell? ⟨w3.heap.size, 0, none⟩ = some (.pointer (some ⟨rt, 0, none⟩)) := cell_of (Q15.keep (by omega) hcvL) rfl
            have cv1 : w15.cell? ⟨w3.heap.size, 1, none⟩ = some (.iface 76 (.pointer (some ⟨sm, 0, none⟩))) := cell_of (Q15.keep (by omega) hcvL) rfl
            have cv2 : w15.cell? ⟨w3.heap.size, 2, none⟩ = some (.iface 73 (.pointer (some ⟨ar, 0, none⟩))) := cell_of (Q15.keep (by omega) hcvL) rfl
            have cv3 : w15.cell? ⟨w3.heap.size, 3, none⟩ = some (.slice (some ⟨e0, 0, none⟩) zs.length zs.length) := cell_of (Q15.keep (by omega) hcvL) rfl
            have hr15 : (w15.alloc (.cells #[(.iface 59 (.pointer (some ⟨(e0 + 1 + (0 + 1)), 0, none⟩)))] 47)).drew.heap[w15.heap.size]? = some (.cells #[(.iface 59 (.pointer (some ⟨(e0 + 1 + (0 + 1)), 0, none⟩)))] 47) := h_new w15 (.cells #[(.iface 59 (.pointer (some ⟨(e0 + 1 + (0 + 1)), 0, none⟩)))] 47)
            have hel15 : (w15.alloc (.cells #[(.iface 59 (.pointer (some ⟨(e0 + 1 + (0 + 1)), 0, none⟩)))] 47)).drew.cell? ⟨e0, 0 + 1, none⟩ = some (.iface 59 (.pointer (some ⟨e0 + 1 + (0 + 1), 0, none⟩))) := up ((World.cell?_of_block (w := wL) (Q15.block e0 (by omega) (by omega))).trans (helsL (0 + 1) (by omega)))
            go_wp2
            go_region_with (first | (go_at_call 13; refine (sumElemZ rt sm ar e0 zs.length (0 + 1) 59 (e0 + 1 + (0 + 1)) _ (by first | omega | go_arith) (by omega) _ hel15).mono ?_; rintro e w17 ⟨rfl, q17⟩; have m17 := cell_of (q17.keep id hr15) (j := 0) rfl) | (go_at_call 11; refine (zzSame isPI (e0 + 1 + (0 + 1)) _).mono ?_; rintro e w18 ⟨rfl, q18⟩))
            all_goals
              have R18 := (((R15.alloc (.cells #[(.iface 59 (.pointer (some ⟨(e0 + 1 + (0 + 1)), 0, none⟩)))] 47)).drew).trans q17).trans q18
              have hr18 := q18.keep id (q17.keep id hr15)
              clear m17 hr15 hel15 cv0 cv1 cv2 cv3 q17 q18
              have Q18 := Q.trans (R18.mono (fun _ h => h.elim))
              have s18 := Q18.size
              have lc18 : w3.heap.size < w18.heap.size := by omega
              have lu18 : w6.heap.size + 1 < w18.heap.size := by omega
              have lz18 : w0.heap.size < w18.heap.size := by omega
              have cr18 := cell_of hr18 (j := 0) rfl
              go_wp2_with fail
              refine (intValue (e0 + 1 + (0 + 1)) 0 y _ (Q18.keep (by omega) hi2)).mono ?_
              clear cr18
              rintro e w19 ⟨rfl, q19⟩
              have R19 := R18.trans q19
              have Q19 := Q.trans (R19.mono (fun _ h => h.elim))
              have s19 := Q19.size
              have lc19 : w3.heap.size < w19.heap.size := by omega
              have lu19 : w6.heap.size + 1 < w19.heap.size := by omega
              have lz19 : w0.heap.size < w19.heap.size := by omega
              have hv3 : wL.cell? ⟨w0.heap.size, zs.length - 1, none⟩ = some (.int .i64 y) := by rw [show zs.length - 1 = 0 + 1 by omega]; exact hv2
              have vv19 : w19.cell? ⟨w0.heap.size, zs.length - 1, none⟩ = some (.int .i64 y) := (World.cell?_of_block (w := wL) (Q19.block w0.heap.size (by omega) (by omega))).trans hv3
              have hr19 := q19.keep id hr18
              have cr19 := cell_of hr19 (j := 0) rfl
              have hcur19 := R19.keep id hcur
              have cu19 : w19.cell? ⟨w6.heap.size + 1, 0, none⟩ = some (.iface 87 (.pointer (some ⟨r, 0, none⟩))) := cell_of hcur19 rfl
              have fu19 := frozen_of hcur19 (j := 0)
              go_wp2
              go_roundw
              case rel => exact ⟨0 + 1, (e0 + 1 + (0 + 1)), by omega, by simp, by repeat' (first | exact Q19 | apply But.drew | apply But.alloc | (refine But.setCell ?_ (by rfl) _)), fun hx => absurd hx (by omega)⟩
              case measure => simp [intOf]; omega
        · rw [if_neg hi0] at hnode
          have hlt1 : (i : Int) < (zs.length : Int) - 1 := by omega
          have hln : i < zs.length := by omega
          have R7 := But.refl (fun _ => False) wr
          have cu7 : wr.cell? ⟨w6.heap.size + 1, 0, none⟩ = some (.iface 87 (.pointer (some ⟨r, 0, none⟩))) := cell_of hcur rfl
          go_wp2_with fail
          refine (binOp r 0 ⟨#[43]⟩ _ _ _ (Q.keep (by omega) hnode)).mono ?_
          rintro e w8 ⟨rfl, R8⟩
          have Q8 := Q.trans (R8.mono (fun _ h => h.elim))
          have s8 := Q8.size
          have lc8 : w3.heap.size < w8.heap.size := by omega
          have lu8 : w6.heap.size + 1 < w8.heap.size := by omega
          have lz8 : w0.heap.size < w8.heap.size := by omega
          have cu8 : w8.cell? ⟨w6.heap.size + 1, 0, none⟩ = some (.iface 87 (.pointer (some ⟨r, 0, none⟩))) := cell_of (R8.keep id hcur) rfl
          clear cu7 hlt1
          go_wp2_with fail
          have key := typeTag isPB r 0 90 (by omega) #[(.string ⟨#[43]⟩), (.iface 59 (.pointer (some ⟨e0 + 1 + i, 0, none⟩))), (.iface 59 (.pointer (some ⟨(e0 + 1 + (i + 1)), 0, none⟩)))] _ (Q8.keep (by omega) hnode)
          rw [show ((tag 0 : Nat) : Int) = 0 from rfl] at key
          refine key.mono ?_
          clear key cu8
          rintro e w9 ⟨rfl, q9⟩
          have R9 := R8.trans q9
          have Q9 := Q.trans (R9.mono (fun _ h => h.elim))
          have s9 := Q9.size
          have lc9 : w3.heap.size < w9.heap.size := by omega
          have lu9 : w6.heap.size + 1 < w9.heap.size := by omega
          have lz9 : w0.heap.size < w9.heap.size := by omega
          have cu9 : w9.cell? ⟨w6.heap.size + 1, 0, none⟩ = some (.iface 87 (.pointer (some ⟨r, 0, none⟩))) := cell_of (R9.keep id hcur) rfl
          go_wp2_with fail
          refine (binLeft r 0 (.string ⟨#[43]⟩) (.iface 59 (.pointer (some ⟨(e0 + 1 + (i + 1)), 0, none⟩))) 59 (e0 + 1 + i) _ (Q9.keep (by omega) hnode)).mono ?_
          clear cu9
          rintro e w10 ⟨rfl, q10⟩
          have R10 := R9.trans q10
          have Q10 := Q.trans (R10.mono (fun _ h => h.elim))
          have s10 := Q10.size
          have lc10 : w3.heap.size < w10.heap.size := by omega
          have lu10 : w6.heap.size + 1 < w10.heap.size := by omega
          have lz10 : w0.heap.size < w10.heap.size := by omega
          have cv0 : w10.cell? ⟨w3.heap.size, 0, none⟩ = some (.pointer (some ⟨rt, 0, none⟩)) := cell_of (Q10.keep (by omega) hcvL) rfl
          have cv1 : w10.cell? ⟨w3.heap.size, 1, none⟩ = some (.iface 76 (.pointer (some ⟨sm, 0, none⟩))) := cell_of (Q10.keep (by omega) hcvL) rfl
          have cv2 : w10.cell? ⟨w3.heap.size, 2, none⟩ = some (.iface 73 (.pointer (some ⟨ar, 0, none⟩))) := cell_of (Q10.keep (by omega) hcvL) rfl
          have cv3 : w10.cell? ⟨w3.heap.size, 3, none⟩ = some (.slice (some ⟨e0, 0, none⟩) zs.length zs.length) := cell_of (Q10.keep (by omega) hcvL) rfl
          have hl10 : (w10.alloc (.cells #[(.iface 59 (.pointer (some ⟨e0 + 1 + i, 0, none⟩)))] 47)).drew.heap[w10.heap.size]? = some (.cells #[(.iface 59 (.pointer (some ⟨e0 + 1 + i, 0, none⟩)))] 47) := h_new w10 (.cells #[(.iface 59 (.pointer (some ⟨e0 + 1 + i, 0, none⟩)))] 47)
          have hel10 : (w10.alloc (.cells #[(.iface 59 (.pointer (some ⟨e0 + 1 + i, 0, none⟩)))] 47)).drew.cell? ⟨e0, i, none⟩ = some (.iface 59 (.pointer (some ⟨e0 + 1 + i, 0, none⟩))) := up ((World.cell?_of_block (w := wL) (Q10.block e0 (by omega) (by omega))).trans (helsL i hln))
          go_wp2
          go_region_with (first | (go_at_call 13; refine (sumElemZ rt sm ar e0 zs.length i 59 (e0 + 1 + i) _ (by simp) hln _ hel10).mono ?_; rintro e w12 ⟨rfl, q12⟩; have m12 := cell_of (q12.keep id hl10) (j := 0) rfl) | (go_at_call 11; refine (zzSame isPI (e0 + 1 + i) _).mono ?_; rintro e w13 ⟨rfl, q13⟩))
          all_goals
            have R13 := (((R10.alloc (.cells #[(.iface 59 (.pointer (some ⟨e0 + 1 + i, 0, none⟩)))] 47)).drew).trans q12).trans q13
            have hl13 := q13.keep id (q12.keep id hl10)
            clear m12 hl10 hel10 cv0 cv1 cv2 cv3 q12 q13
            have Q13 := Q.trans (R13.mono (fun _ h => h.elim))
            have s13 := Q13.size
            have lc13 : w3.heap.size < w13.heap.size := by omega
            have lu13 : w6.heap.size + 1 < w13.heap.size := by omega
            have lz13 : w0.heap.size < w13.heap.size := by omega
            have cl13 := cell_of hl13 (j := 0) rfl
            go_wp2_with fail
            refine (intValue (e0 + 1 + i) 0 z _ (Q13.keep (by omega) hi1)).mono ?_
            clear cl13
            rintro e w14 ⟨rfl, q14⟩
            have R14 := R13.trans q14
            have Q14 := Q.trans (R14.mono (fun _ h => h.elim))
            have s14 := Q14.size
            have lc14 : w3.heap.size < w14.heap.size := by omega
            have lu14 : w6.heap.size + 1 < w14.heap.size := by omega
            have lz14 : w0.heap.size < w14.heap.size := by omega
            have cu14 : w14.cell? ⟨w6.heap.size + 1, 0, none⟩ = some (.iface 87 (.pointer (some ⟨r, 0, none⟩))) := cell_of (R14.keep id hcur) rfl
            have vv14 : w14.cell? ⟨w0.heap.size, i, none⟩ = some (.int .i64 z) := (World.cell?_of_block (w := wL) (Q14.block w0.heap.size (by omega) (by omega))).trans hv1
            go_wp2_with fail
            refine (binRight r 0 (.string ⟨#[43]⟩) (.iface 59 (.pointer (some ⟨e0 + 1 + i, 0, none⟩))) 59 (e0 + 1 + (i + 1)) _ (Q14.keep (by omega) hnode)).mono ?_
            clear cu14 vv14
            rintro e w15 ⟨rfl, q15⟩
            have R15 := R14.trans q15
            have Q15 := Q.trans (R15.mono (fun _ h => h.elim))
            have s15 := Q15.size
            have lc15 : w3.heap.size < w15.heap.size := by omega
            have lu15 : w6.heap.size + 1 < w15.heap.size := by omega
            have lz15 : w0.heap.size < w15.heap.size := by omega
            have cv0 : w15.cell? ⟨w3.heap.size, 0, none⟩ = some (.pointer (some ⟨rt, 0, none⟩)) := cell_of (Q15.keep (by omega) hcvL) rfl
            have cv1 : w15.cell? ⟨w3.heap.size, 1, none⟩ = some (.iface 76 (.pointer (some ⟨sm, 0, none⟩))) := cell_of (Q15.keep (by omega) hcvL) rfl
            have cv2 : w15.cell? ⟨w3.heap.size, 2, none⟩ = some (.iface 73 (.pointer (some ⟨ar, 0, none⟩))) := cell_of (Q15.keep (by omega) hcvL) rfl
            have cv3 : w15.cell? ⟨w3.heap.size, 3, none⟩ = some (.slice (some ⟨e0, 0, none⟩) zs.length zs.length) := cell_of (Q15.keep (by omega) hcvL) rfl
            have hr15 : (w15.alloc (.cells #[(.iface 59 (.pointer (some ⟨(e0 + 1 + (i + 1)), 0, none⟩)))] 47)).drew.heap[w15.heap.size]? = some (.cells #[(.iface 59 (.pointer (some ⟨(e0 + 1 + (i + 1)), 0, none⟩)))] 47) := h_new w15 (.cells #[(.iface 59 (.pointer (some ⟨(e0 + 1 + (i + 1)), 0, none⟩)))] 47)
            have hel15 : (w15.alloc (.cells #[(.iface 59 (.pointer (some ⟨(e0 + 1 + (i + 1)), 0, none⟩)))] 47)).drew.cell? ⟨e0, i + 1, none⟩ = some (.iface 59 (.pointer (some ⟨e0 + 1 + (i + 1), 0, none⟩))) := up ((World.cell?_of_block (w := wL) (Q15.block e0 (by omega) (by omega))).trans (helsL (i + 1) (by omega)))
            go_wp2
            go_region_with (first | (go_at_call 13; refine (sumElemZ rt sm ar e0 zs.length (i + 1) 59 (e0 + 1 + (i + 1)) _ (by first | omega | go_arith) (by omega) _ hel15).mono ?_; rintro e w17 ⟨rfl, q17⟩; have m17 := cell_of (q17.keep id hr15) (j := 0) rfl) | (go_at_call 11; refine (zzSame isPI (e0 + 1 + (i + 1)) _).mono ?_; rintro e w18 ⟨rfl, q18⟩))
            all_goals
              have R18 := (((R15.alloc (.cells #[(.iface 59 (.pointer (some ⟨(e0 + 1 + (i + 1)), 0, none⟩)))] 47)).drew).trans q17).trans q18
              have hr18 := q18.keep id (q17.keep id hr15)
              clear m17 hr15 hel15 cv0 cv1 cv2 cv3 q17 q18
              have Q18 := Q.trans (R18.mono (fun _ h => h.elim))
              have s18 := Q18.size
              have lc18 : w3.heap.size < w18.heap.size := by omega
              have lu18 : w6.heap.size + 1 < w18.heap.size := by omega
              have lz18 : w0.heap.size < w18.heap.size := by omega
              have cr18 := cell_of hr18 (j := 0) rfl
              go_wp2_with fail
              refine (intValue (e0 + 1 + (i + 1)) 0 y _ (Q18.keep (by omega) hi2)).mono ?_
              clear cr18
              rintro e w19 ⟨rfl, q19⟩
              have R19 := R18.trans q19
              have Q19 := Q.trans (R19.mono (fun _ h => h.elim))
              have s19 := Q19.size
              have lc19 : w3.heap.size < w19.heap.size := by omega
              have lu19 : w6.heap.size + 1 < w19.heap.size := by omega
              have lz19 : w0.heap.size < w19.heap.size := by omega
              have hv3 : wL.cell? ⟨w0.heap.size, zs.length - 1, none⟩ = some (.int .i64 y) := by rw [show zs.length - 1 = i + 1 by omega]; exact hv2
              have vv19 : w19.cell? ⟨w0.heap.size, zs.length - 1, none⟩ = some (.int .i64 y) := (World.cell?_of_block (w := wL) (Q19.block w0.heap.size (by omega) (by omega))).trans hv3
              have hr19 := q19.keep id hr18
              have cr19 := cell_of hr19 (j := 0) rfl
              have hcur19 := R19.keep id hcur
              have cu19 : w19.cell? ⟨w6.heap.size + 1, 0, none⟩ = some (.iface 87 (.pointer (some ⟨r, 0, none⟩))) := cell_of hcur19 rfl
              have fu19 := frozen_of hcur19 (j := 0)
              go_wp2
              go_roundw
              case rel => exact ⟨i + 1, (e0 + 1 + (i + 1)), by omega, by simp, by repeat' (first | exact Q19 | apply But.drew | apply But.alloc | (refine But.setCell ?_ (by rfl) _)), fun hx => absurd hx (by omega)⟩
              case measure => simp [intOf]; omega
      · obtain ⟨k, hk'⟩ : ∃ k, zs.length - 2 - i = k + 1 := ⟨zs.length - 2 - i - 1, by omega⟩
        obtain ⟨rfl, lbr, hch2⟩ := hks k hk'
        obtain rfl : k = zs.length - 2 - (i + 1) := by omega
        clear hk0 hks hk'
        by_cases hi0 : i = 0
        · subst hi0
          rw [if_pos rfl] at hnode
          have hlt1 : (0 : Int) < (zs.length : Int) - 1 := by omega
          have hln : 0 < zs.length := by omega
          have R7 := But.refl (fun _ => False) wr
          have cu7 : wr.cell? ⟨w6.heap.size + 1, 0, none⟩ = some (.iface 87 (.pointer (some ⟨r, 0, none⟩))) := cell_of hcur rfl
          go_wp2_with fail
          refine (binOp r (ans t) ⟨#[43]⟩ _ _ _ (Q.keep (by omega) hnode)).mono ?_
          rintro e w8 ⟨rfl, R8⟩
          have Q8 := Q.trans (R8.mono (fun _ h => h.elim))
          have s8 := Q8.size
          have lc8 : w3.heap.size < w8.heap.size := by omega
          have lu8 : w6.heap.size + 1 < w8.heap.size := by omega
          have lz8 : w0.heap.size < w8.heap.size := by omega
          have cu8 : w8.cell? ⟨w6.heap.size + 1, 0, none⟩ = some (.iface 87 (.pointer (some ⟨r, 0, none⟩))) := cell_of (R8.keep id hcur) rfl
          clear cu7 hlt1
          go_wp2_with fail
          have key := typeTag isPB r (ans t) 90 (by exact ans_le _ (by omega)) #[(.string ⟨#[43]⟩), (.iface 59 (.pointer (some ⟨e0 + 1 + 0, 0, none⟩))), (.iface 87 (.pointer (some ⟨b, 0, none⟩)))] _ (Q8.keep (by omega) hnode)
          rw [tag_ans t ht] at key
          refine key.mono ?_
          clear key cu8
          rintro e w9 ⟨rfl, q9⟩
          have R9 := R8.trans q9
          have Q9 := Q.trans (R9.mono (fun _ h => h.elim))
          have s9 := Q9.size
          have lc9 : w3.heap.size < w9.heap.size := by omega
          have lu9 : w6.heap.size + 1 < w9.heap.size := by omega
          have lz9 : w0.heap.size < w9.heap.size := by omega
          have cu9 : w9.cell? ⟨w6.heap.size + 1, 0, none⟩ = some (.iface 87 (.pointer (some ⟨r, 0, none⟩))) := cell_of (R9.keep id hcur) rfl
          go_wp2_with fail
          refine (binLeft r (ans t) (.string ⟨#[43]⟩) (.iface 87 (.pointer (some ⟨b, 0, none⟩))) 59 (e0 + 1 + 0) _ (Q9.keep (by omega) hnode)).mono ?_
          clear cu9
          rintro e w10 ⟨rfl, q10⟩
          have R10 := R9.trans q10
          have Q10 := Q.trans (R10.mono (fun _ h => h.elim))
          have s10 := Q10.size
          have lc10 : w3.heap.size < w10.heap.size := by omega
          have lu10 : w6.heap.size + 1 < w10.heap.size := by omega
          have lz10 : w0.heap.size < w10.heap.size := by omega
          have cv0 : w10.cell? ⟨w3.heap.size, 0, none⟩ = some (.pointer (some ⟨rt, 0, none⟩)) := cell_of (Q10.keep (by omega) hcvL) rfl
          have cv1 : w10.cell? ⟨w3.heap.size, 1, none⟩ = some (.iface 76 (.pointer (some ⟨sm, 0, none⟩))) := cell_of (Q10.keep (by omega) hcvL) rfl
          have cv2 : w10.cell? ⟨w3.heap.size, 2, none⟩ = some (.iface 73 (.pointer (some ⟨ar, 0, none⟩))) := cell_of (Q10.keep (by omega) hcvL) rfl
          have cv3 : w10.cell? ⟨w3.heap.size, 3, none⟩ = some (.slice (some ⟨e0, 0, none⟩) zs.length zs.length) := cell_of (Q10.keep (by omega) hcvL) rfl
          have hl10 : (w10.alloc (.cells #[(.iface 59 (.pointer (some ⟨e0 + 1 + 0, 0, none⟩)))] 47)).drew.heap[w10.heap.size]? = some (.cells #[(.iface 59 (.pointer (some ⟨e0 + 1 + 0, 0, none⟩)))] 47) := h_new w10 (.cells #[(.iface 59 (.pointer (some ⟨e0 + 1 + 0, 0, none⟩)))] 47)
          have hel10 : (w10.alloc (.cells #[(.iface 59 (.pointer (some ⟨e0 + 1 + 0, 0, none⟩)))] 47)).drew.cell? ⟨e0, 0, none⟩ = some (.iface 59 (.pointer (some ⟨e0 + 1 + 0, 0, none⟩))) := up ((World.cell?_of_block (w := wL) (Q10.block e0 (by omega) (by omega))).trans (helsL 0 hln))
          go_wp2
          go_region_with (first | (go_at_call 13; refine (sumElemZ rt sm ar e0 zs.length 0 59 (e0 + 1 + 0) _ (by simp) hln _ hel10).mono ?_; rintro e w12 ⟨rfl, q12⟩; have m12 := cell_of (q12.keep id hl10) (j := 0) rfl) | (go_at_call 11; refine (zzSame isPI (e0 + 1 + 0) _).mono ?_; rintro e w13 ⟨rfl, q13⟩))
          all_goals
            have R13 := (((R10.alloc (.cells #[(.iface 59 (.pointer (some ⟨e0 + 1 + 0, 0, none⟩)))] 47)).drew).trans q12).trans q13
            have hl13 := q13.keep id (q12.keep id hl10)
            clear m12 hl10 hel10 cv0 cv1 cv2 cv3 q12 q13
            have Q13 := Q.trans (R13.mono (fun _ h => h.elim))
            have s13 := Q13.size
            have lc13 : w3.heap.size < w13.heap.size := by omega
            have lu13 : w6.heap.size + 1 < w13.heap.size := by omega
            have lz13 : w0.heap.size < w13.heap.size := by omega
            have cl13 := cell_of hl13 (j := 0) rfl
            go_wp2_with fail
            refine (intValue (e0 + 1 + 0) 0 z _ (Q13.keep (by omega) hi1)).mono ?_
            clear cl13
            rintro e w14 ⟨rfl, q14⟩
            have R14 := R13.trans q14
            have Q14 := Q.trans (R14.mono (fun _ h => h.elim))
            have s14 := Q14.size
            have lc14 : w3.heap.size < w14.heap.size := by omega
            have lu14 : w6.heap.size + 1 < w14.heap.size := by omega
            have lz14 : w0.heap.size < w14.heap.size := by omega
            have cu14 : w14.cell? ⟨w6.heap.size + 1, 0, none⟩ = some (.iface 87 (.pointer (some ⟨r, 0, none⟩))) := cell_of (R14.keep id hcur) rfl
            have vv14 : w14.cell? ⟨w0.heap.size, 0, none⟩ = some (.int .i64 z) := (World.cell?_of_block (w := wL) (Q14.block w0.heap.size (by omega) (by omega))).trans hv1
            go_wp2_with fail
            refine (binRight r (ans t) (.string ⟨#[43]⟩) (.iface 59 (.pointer (some ⟨e0 + 1 + 0, 0, none⟩))) 87 b _ (Q14.keep (by omega) hnode)).mono ?_
            clear cu14 vv14
            rintro e w15 ⟨rfl, q15⟩
            have R15 := R14.trans q15
            have Q15 := Q.trans (R15.mono (fun _ h => h.elim))
            have s15 := Q15.size
            have lc15 : w3.heap.size < w15.heap.size := by omega
            have lu15 : w6.heap.size + 1 < w15.heap.size := by omega
            have lz15 : w0.heap.size < w15.heap.size := by omega
            have hcur15 := R15.keep id hcur
            have cu15 : w15.cell? ⟨w6.heap.size + 1, 0, none⟩ = some (.iface 87 (.pointer (some ⟨r, 0, none⟩))) := cell_of hcur15 rfl
            have fu15 := frozen_of hcur15 (j := 0)
            go_wp2
            go_roundw
            case rel => exact ⟨0 + 1, b, by omega, by simp, by repeat' (first | exact Q15 | apply But.drew | apply But.alloc | (refine But.setCell ?_ (by rfl) _)), fun _ => ⟨by omega, by repeat' (first | exact h_set _ hcur15 | apply h_old), by rw [if_neg (by omega)]; exact hch2⟩⟩
            case measure => simp [intOf]; omega
        · rw [if_neg hi0] at hnode
          have hlt1 : (i : Int) < (zs.length : Int) - 1 := by omega
          have hln : i < zs.length := by omega
          have R7 := But.refl (fun _ => False) wr
          have cu7 : wr.cell? ⟨w6.heap.size + 1, 0, none⟩ = some (.iface 87 (.pointer (some ⟨r, 0, none⟩))) := cell_of hcur rfl
          go_wp2_with fail
          refine (binOp r 0 ⟨#[43]⟩ _ _ _ (Q.keep (by omega) hnode)).mono ?_
          rintro e w8 ⟨rfl, R8⟩
          have Q8 := Q.trans (R8.mono (fun _ h => h.elim))
          have s8 := Q8.size
          have lc8 : w3.heap.size < w8.heap.size := by omega
          have lu8 : w6.heap.size + 1 < w8.heap.size := by omega
          have lz8 : w0.heap.size < w8.heap.size := by omega
          have cu8 : w8.cell? ⟨w6.heap.size + 1, 0, none⟩ = some (.iface 87 (.pointer (some ⟨r, 0, none⟩))) := cell_of (R8.keep id hcur) rfl
          clear cu7 hlt1
          go_wp2_with fail
          have key := typeTag isPB r 0 90 (by omega) #[(.string ⟨#[43]⟩), (.iface 59 (.pointer (some ⟨e0 + 1 + i, 0, none⟩))), (.iface 87 (.pointer (some ⟨b, 0, none⟩)))] _ (Q8.keep (by omega) hnode)
          rw [show ((tag 0 : Nat) : Int) = 0 from rfl] at key
          refine key.mono ?_
          clear key cu8
          rintro e w9 ⟨rfl, q9⟩
          have R9 := R8.trans q9
          have Q9 := Q.trans (R9.mono (fun _ h => h.elim))
          have s9 := Q9.size
          have lc9 : w3.heap.size < w9.heap.size := by omega
          have lu9 : w6.heap.size + 1 < w9.heap.size := by omega
          have lz9 : w0.heap.size < w9.heap.size := by omega
          have cu9 : w9.cell? ⟨w6.heap.size + 1, 0, none⟩ = some (.iface 87 (.pointer (some ⟨r, 0, none⟩))) := cell_of (R9.keep id hcur) rfl
          go_wp2_with fail
          refine (binLeft r 0 (.string ⟨#[43]⟩) (.iface 87 (.pointer (some ⟨b, 0, none⟩))) 59 (e0 + 1 + i) _ (Q9.keep (by omega) hnode)).mono ?_
          clear cu9
          rintro e w10 ⟨rfl, q10⟩
          have R10 := R9.trans q10
          have Q10 := Q.trans (R10.mono (fun _ h => h.elim))
          have s10 := Q10.size
          have lc10 : w3.heap.size < w10.heap.size := by omega
          have lu10 : w6.heap.size + 1 < w10.heap.size := by omega
          have lz10 : w0.heap.size < w10.heap.size := by omega
          have cv0 : w10.cell? ⟨w3.heap.size, 0, none⟩ = some (.pointer (some ⟨rt, 0, none⟩)) := cell_of (Q10.keep (by omega) hcvL) rfl
          have cv1 : w10.cell? ⟨w3.heap.size, 1, none⟩ = some (.iface 76 (.pointer (some ⟨sm, 0, none⟩))) := cell_of (Q10.keep (by omega) hcvL) rfl
          have cv2 : w10.cell? ⟨w3.heap.size, 2, none⟩ = some (.iface 73 (.pointer (some ⟨ar, 0, none⟩))) := cell_of (Q10.keep (by omega) hcvL) rfl
          have cv3 : w10.cell? ⟨w3.heap.size, 3, none⟩ = some (.slice (some ⟨e0, 0, none⟩) zs.length zs.length) := cell_of (Q10.keep (by omega) hcvL) rfl
          have hl10 : (w10.alloc (.cells #[(.iface 59 (.pointer (some ⟨e0 + 1 + i, 0, none⟩)))] 47)).drew.heap[w10.heap.size]? = some (.cells #[(.iface 59 (.pointer (some ⟨e0 + 1 + i, 0, none⟩)))] 47) := h_new w10 (.cells #[(.iface 59 (.pointer (some ⟨e0 + 1 + i, 0, none⟩)))] 47)
          have hel10 : (w10.alloc (.cells #[(.iface 59 (.pointer (some ⟨e0 + 1 + i, 0, none⟩)))] 47)).drew.cell? ⟨e0, i, none⟩ = some (.iface 59 (.pointer (some ⟨e0 + 1 + i, 0, none⟩))) := up ((World.cell?_of_block (w := wL) (Q10.block e0 (by omega) (by omega))).trans (helsL i hln))
          go_wp2
          go_region_with (first | (go_at_call 13; refine (sumElemZ rt sm ar e0 zs.length i 59 (e0 + 1 + i) _ (by simp) hln _ hel10).mono ?_; rintro e w12 ⟨rfl, q12⟩; have m12 := cell_of (q12.keep id hl10) (j := 0) rfl) | (go_at_call 11; refine (zzSame isPI (e0 + 1 + i) _).mono ?_; rintro e w13 ⟨rfl, q13⟩))
          all_goals
            have R13 := (((R10.alloc (.cells #[(.iface 59 (.pointer (some ⟨e0 + 1 + i, 0, none⟩)))] 47)).drew).trans q12).trans q13
            have hl13 := q13.keep id (q12.keep id hl10)
            clear m12 hl10 hel10 cv0 cv1 cv2 cv3 q12 q13
            have Q13 := Q.trans (R13.mono (fun _ h => h.elim))
            have s13 := Q13.size
            have lc13 : w3.heap.size < w13.heap.size := by omega
            have lu13 : w6.heap.size + 1 < w13.heap.size := by omega
            have lz13 : w0.heap.size < w13.heap.size := by omega
            have cl13 := cell_of hl13 (j := 0) rfl
            go_wp2_with fail
            refine (intValue (e0 + 1 + i) 0 z _ (Q13.keep (by omega) hi1)).mono ?_
            clear cl13
            rintro e w14 ⟨rfl, q14⟩
            have R14 := R13.trans q14
            have Q14 := Q.trans (R14.mono (fun _ h => h.elim))
            have s14 := Q14.size
            have lc14 : w3.heap.size < w14.heap.size := by omega
            have lu14 : w6.heap.size + 1 < w14.heap.size := by omega
            have lz14 : w0.heap.size < w14.heap.size := by omega
            have cu14 : w14.cell? ⟨w6.heap.size + 1, 0, none⟩ = some (.iface 87 (.pointer (some ⟨r, 0, none⟩))) := cell_of (R14.keep id hcur) rfl
            have vv14 : w14.cell? ⟨w0.heap.size, i, none⟩ = some (.int .i64 z) := (World.cell?_of_block (w := wL) (Q14.block w0.heap.size (by omega) (by omega))).trans hv1
            go_wp2_with fail
            refine (binRight r 0 (.string ⟨#[43]⟩) (.iface 59 (.pointer (some ⟨e0 + 1 + i, 0, none⟩))) 87 b _ (Q14.keep (by omega) hnode)).mono ?_
            clear cu14 vv14
            rintro e w15 ⟨rfl, q15⟩
            have R15 := R14.trans q15
            have Q15 := Q.trans (R15.mono (fun _ h => h.elim))
            have s15 := Q15.size
            have lc15 : w3.heap.size < w15.heap.size := by omega
            have lu15 : w6.heap.size + 1 < w15.heap.size := by omega
            have lz15 : w0.heap.size < w15.heap.size := by omega
            have hcur15 := R15.keep id hcur
            have cu15 : w15.cell? ⟨w6.heap.size + 1, 0, none⟩ = some (.iface 87 (.pointer (some ⟨r, 0, none⟩))) := cell_of hcur15 rfl
            have fu15 := frozen_of hcur15 (j := 0)
            go_wp2
            go_roundw
            case rel => exact ⟨i + 1, b, by omega, by simp, by repeat' (first | exact Q15 | apply But.drew | apply But.alloc | (refine But.setCell ?_ (by rfl) _)), fun _ => ⟨by omega, by repeat' (first | exact h_set _ hcur15 | apply h_old), by rw [if_neg (by omega)]; exact hch2⟩⟩
            case measure => simp [intOf]; omega
    · have hi3 : ¬ ((i : Int) < (zs.length : Int) - 1) := by omega
      go_wp2
      go_ret
      exact ⟨rfl, BL.trans (Q.below (by omega) (by intro k hk; omega))⟩
end Go.Proofs.YtkgllpdcpmcmoaaReflFmt.opt
