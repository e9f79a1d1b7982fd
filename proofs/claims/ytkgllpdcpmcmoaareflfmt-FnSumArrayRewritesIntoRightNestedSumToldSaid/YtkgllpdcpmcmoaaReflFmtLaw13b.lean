/-
The law of FnSumArrayRewritesIntoRightNestedSum at every list and every tag. No condition.
-/
import Derived.Test.YtkgllpdcpmcmoaaReflFmtLaw13
namespace Go.Proofs.YtkgllpdcpmcmoaaReflFmt.opt
open Go Go.Proofs Go.RowKit
set_option maxRecDepth 100000
set_option maxHeartbeats 2000000
theorem law13_small (ad : Addr) (c : Nat) (zs : List Int) (h2 : zs.length < 2) (t : Nat) (ht : t ≤ 4) (w : World)
    (hsrc : ∀ j, j < zs.length → w.cell? (ad.add j) = some (.int .i64 (zs.getD j 0))) :
    Calls Tryr.prog 4 #[.slice (some ad) zs.length c, .int .i64 t] w fun e w' => e = .returned (.bool true) ∧ Below w.heap.size w w' := by
  have hn : zs.length ≤ 4096 := by omega
  have hb1 : (!decide ((1048576 : Int) < zs.length)) = true := by simp; omega
  have hs1 : ¬ ((4096 : Int) < zs.length) := by omega
  have ht1 : ¬ ((t : Int) < 0) := by omega
  have ht2 : ¬ ((4 : Int) < t) := by omega
  have hs2 : (zs.length : Int) < 2 := by omega
  have qT : ∀ (w : World) (a : Option Addr) (n c n' c' : Nat), (Go.binOp .neq 36 (.slice a n c) (.slice none n' c')).run Tryr.prog w = .ok (.bool (!a.isNone)) w := fun w a n c n' c' => run_neq_slice_nil_any w _ _ a n c n' c' Tryr.underlying36
  have hm := run_make_row' (P := Tryr.prog) 36 3 (.int .i64 0) 8 Tryr.underlying36 infoI rfl .i64 .i64 zs.length (by omega) (by omega)
  go_enter Tryr.func4, Tryr.ntmps4
  go_wp2_with fail
  refine (bytes13 _ _ _ _ _).mono ?_
  rintro e w0 ⟨rfl, rfl⟩
  rw [hb1]
  have hsrc2 : ∀ (j : Nat) v, (zs.map (Value.int .i64))[j]? = some v → (w0.alloc (.cells (madeCells #[.int .i64 0] zs.length) 3)).cell? (ad.add j) = some v := by
    intro j v hj
    have hjl : j < zs.length := by
      have := (List.getElem?_eq_some_iff.1 hj).1
      simpa using this
    have e : v = .int .i64 (zs.getD j 0) := by
      simp [hjl] at hj
      rw [← hj]; simp [List.getD_eq_getElem?_getD, hjl]
    rw [e]
    exact up (hsrc j hjl)
  have hone : ∀ v ∈ zs.map (Value.int .i64), v.oneCell' = true := by
    intro v hv
    obtain ⟨z, _, rfl⟩ := List.mem_map.1 hv
    rfl
  have hcp : (Builtin.copy_ #[36, 36] 3 #[.slice (some ⟨w0.heap.size, 0, none⟩) zs.length zs.length, .slice (some ad) zs.length c]).run Tryr.prog (w0.alloc (.cells (madeCells #[.int .i64 0] zs.length) 3)) = .ok (goInt zs.length) (w0.alloc (.cells (zs.map (Value.int .i64)).toArray 3)) := by
    have key := run_copy_row (P := Tryr.prog) (w0.alloc (.cells (madeCells #[.int .i64 0] zs.length) 3)) 36 36 3 3 w0.heap.size 0 zs.length zs.length ad zs.length c (madeCells #[.int .i64 0] zs.length) 3 (zs.map (Value.int .i64)) Tryr.underlying36 infoI1 (h_new _ _) (by simp) hsrc2 (by simp [madeCells]) hone
    rw [World.setRow_alloc_new] at key
    have e : ((madeCells #[Value.int .i64 0] zs.length).toList.take 0 ++ zs.map (Value.int .i64) ++ (madeCells #[Value.int .i64 0] zs.length).toList.drop (0 + (zs.map (Value.int .i64)).length)).toArray = (zs.map (Value.int .i64)).toArray := by
      have hd : (madeCells #[Value.int .i64 0] zs.length).toList.drop (0 + (zs.map (Value.int .i64)).length) = [] := List.drop_eq_nil_of_le (by simp [madeCells])
      rw [hd]; simp
    rw [e, List.length_map] at key
    exact key
  clear hsrc hsrc2 hone
  have hv : (w0.alloc (.cells (zs.map (Value.int .i64)).toArray 3)).heap[w0.heap.size]? = some (.cells (zs.map (Value.int .i64)).toArray 3 (0, 0)) := h_new _ _
  have hvals : ∀ j, j < zs.length → (w0.alloc (.cells (zs.map (Value.int .i64)).toArray 3)).cell? ⟨w0.heap.size, 0 + j, none⟩ = some (.int .i64 (zs.getD j 0)) := fun j hj => cell_of hv (by simp [List.getD_eq_getElem?_getD, hj])
  have hb2 : Below w0.heap.size w0 (w0.alloc (.cells (zs.map (Value.int .i64)).toArray 3)) := (Below.refl _ _).alloc (Nat.le_refl _) _
  have lv := lt_of hv
  go_wp2_with fail
  refine (buildSum ⟨#[115, 117, 109]⟩ t ht (some ⟨w0.heap.size, 0, none⟩) w0.heap.size 0 zs.length zs (.inr rfl) hn _ (fun _ => lv) hvals).mono ?_
  clear hcp hm qT
  rintro e w3 ⟨rt, sm, ar, ag, ca, e0, rfl, hS0, o1, o2, o3, o4, o5, o6, q3⟩
  have hS : SumAt w3 ⟨#[115, 117, 109]⟩ t rt sm ar ag 1 ca e0 zs := hS0
  have hS4 := hS.keep ((But.refl (fun _ => False) w3).alloc (.cells #[(.pointer (some ⟨rt, 0, none⟩)), (.iface 76 (.pointer (some ⟨sm, 0, none⟩))), (.iface 73 (.pointer (some ⟨ar, 0, none⟩))), .slice (some ⟨e0, 0, none⟩) zs.length zs.length] 43)) (fun _ h => h.elim)
  have hcv := h_new w3 (.cells #[(.pointer (some ⟨rt, 0, none⟩)), (.iface 76 (.pointer (some ⟨sm, 0, none⟩))), (.iface 73 (.pointer (some ⟨ar, 0, none⟩))), .slice (some ⟨e0, 0, none⟩) zs.length zs.length] 43)
  have hv4 := h_old (.cells #[(.pointer (some ⟨rt, 0, none⟩)), (.iface 76 (.pointer (some ⟨sm, 0, none⟩))), (.iface 73 (.pointer (some ⟨ar, 0, none⟩))), .slice (some ⟨e0, 0, none⟩) zs.length zs.length] 43) (q3.keep id hv)
  have B4 := (hb2.trans (q3.below hb2.size (fun _ h => h.elim))).alloc (Nat.le_trans hb2.size q3.size) (.cells #[(.pointer (some ⟨rt, 0, none⟩)), (.iface 76 (.pointer (some ⟨sm, 0, none⟩))), (.iface 73 (.pointer (some ⟨ar, 0, none⟩))), .slice (some ⟨e0, 0, none⟩) zs.length zs.length] 43)
  have lrt := lt_of hS.root
  have l23 := q3.size
  rw [World.size_alloc] at l23 o1 lv
  clear hS0 hS q3 hv hvals hb2
  have cv0 : (w3.alloc (.cells #[(.pointer (some ⟨rt, 0, none⟩)), (.iface 76 (.pointer (some ⟨sm, 0, none⟩))), (.iface 73 (.pointer (some ⟨ar, 0, none⟩))), .slice (some ⟨e0, 0, none⟩) zs.length zs.length] 43)).cell? ⟨w3.heap.size, 0, none⟩ = some (.pointer (some ⟨rt, 0, none⟩)) := cell_of hcv rfl
  go_wp2_with fail
  refine (zzVisit rt sm ar e0 zs _ (fun w' => But (fun _ => False) (w3.alloc (.cells #[(.pointer (some ⟨rt, 0, none⟩)), (.iface 76 (.pointer (some ⟨sm, 0, none⟩))), (.iface 73 (.pointer (some ⟨ar, 0, none⟩))), .slice (some ⟨e0, 0, none⟩) zs.length zs.length] 43)) w') (fun x w1 q1 => ?_)).mono ?_
  · refine (visit_short x t rt sm ar ag ca e0 zs w1 (hS4.keep q1 (fun _ h => h.elim)) h2).mono ?_
    rintro e w' ⟨rfl, rfl⟩
    exact ⟨rfl, q1⟩
  rintro e w5 ⟨rfl, q5⟩
  have hrt5 := q5.keep id hS4.root
  have hcv5 := q5.keep id hcv
  have B5 := B4.trans (q5.below (B := w0.heap.size) B4.size (fun _ h => h.elim))
  have l5 := lt_of hcv5
  clear hS4 hcv B4 q5 cv0
  have cv0 : w5.cell? ⟨w3.heap.size, 0, none⟩ = some (.pointer (some ⟨rt, 0, none⟩)) := cell_of hcv5 rfl
  have cv1 : w5.cell? ⟨w3.heap.size, 1, none⟩ = some (.iface 76 (.pointer (some ⟨sm, 0, none⟩))) := cell_of hcv5 rfl
  have cv2 : w5.cell? ⟨w3.heap.size, 2, none⟩ = some (.iface 73 (.pointer (some ⟨ar, 0, none⟩))) := cell_of hcv5 rfl
  have cv3 : w5.cell? ⟨w3.heap.size, 3, none⟩ = some (.slice (some ⟨e0, 0, none⟩) zs.length zs.length) := cell_of hcv5 rfl
  go_wp2_with fail
  refine (sumRoot rt sm ar e0 zs.length 76 sm _ hrt5).mono ?_
  clear cv0 cv1 cv2 cv3
  rintro e w6 ⟨rfl, q6⟩
  have hcv6 := q6.keep id hcv5
  have B6 := B5.trans (q6.below (B := w0.heap.size) B5.size (fun _ h => h.elim))
  have l6 := lt_of hcv6
  have l6' := B6.size
  have cv0 : w6.cell? ⟨w3.heap.size, 0, none⟩ = some (.pointer (some ⟨rt, 0, none⟩)) := cell_of hcv6 rfl
  have cv1 : w6.cell? ⟨w3.heap.size, 1, none⟩ = some (.iface 76 (.pointer (some ⟨sm, 0, none⟩))) := cell_of hcv6 rfl
  have cv2 : w6.cell? ⟨w3.heap.size, 2, none⟩ = some (.iface 73 (.pointer (some ⟨ar, 0, none⟩))) := cell_of hcv6 rfl
  have cv3 : w6.cell? ⟨w3.heap.size, 3, none⟩ = some (.slice (some ⟨e0, 0, none⟩) zs.length zs.length) := cell_of hcv6 rfl
  have hro : (w6.alloc (.cells #[(.iface 76 (.pointer (some ⟨sm, 0, none⟩)))] 47)).drew.heap[w6.heap.size]? = some (.cells #[(.iface 76 (.pointer (some ⟨sm, 0, none⟩)))] 47 (0, 0)) := h_new w6 (.cells #[(.iface 76 (.pointer (some ⟨sm, 0, none⟩)))] 47)
  go_wp2
  go_region_with (first | (go_at_call 15; refine (sumNode rt sm ar e0 zs.length _).mono ?_; rintro e w7 ⟨rfl, q7⟩; have m7 := cell_of (q7.keep id hro) (j := 0) rfl) | (go_at_call 11; refine (zzSame isPU sm _).mono ?_; rintro e w8 ⟨rfl, q8⟩))
  all_goals
    go_wp2
    go_ret
    exact ⟨rfl, ((B6.alloc B6.size (.cells #[(.iface 76 (.pointer (some ⟨sm, 0, none⟩)))] 47)).drew.trans (q7.below (B := w0.heap.size) (by simp; omega) (fun _ h => h.elim))).trans (q8.below (B := w0.heap.size) (by have := q7.size; simp at this; omega) (fun _ h => h.elim))⟩
theorem law13_nil (t : Nat) (ht : t ≤ 4) (w : World) :
    Calls Tryr.prog 4 #[.slice Option.none 0 0, .int .i64 t] w fun e w' => e = .returned (.bool true) ∧ Below w.heap.size w w' := by
  have hb1 : (!decide ((1048576 : Int) < ((0 : Nat) : Int))) = true := by simp
  have hs1 : ¬ ((4096 : Int) < 0) := by omega
  have ht1 : ¬ ((t : Int) < 0) := by omega
  have ht2 : ¬ ((4 : Int) < t) := by omega
  have hs2 : (0 : Int) < 2 := by omega
  have qT : ∀ (w : World) (a : Option Addr) (n c n' c' : Nat), (Go.binOp .neq 36 (.slice a n c) (.slice none n' c')).run Tryr.prog w = .ok (.bool (!a.isNone)) w := fun w a n c n' c' => run_neq_slice_nil_any w _ _ a n c n' c' Tryr.underlying36
  go_enter Tryr.func4, Tryr.ntmps4
  go_wp2_with fail
  refine (bytes13 _ _ _ _ _).mono ?_
  rintro e w0 ⟨rfl, rfl⟩
  rw [hb1]
  go_wp2_with fail
  refine (buildSum ⟨#[115, 117, 109]⟩ t ht Option.none 0 0 0 [] (.inl rfl) (by simp) w0 (fun h => absurd rfl h) (fun j hj => absurd hj (Nat.not_lt_zero _))).mono ?_
  rintro e w3 ⟨rt, sm, ar, ag, ca, e0, rfl, hS0, o1, o2, o3, o4, o5, o6, q3⟩
  have hS : SumAt w3 ⟨#[115, 117, 109]⟩ t rt sm ar ag 1 ca e0 [] := hS0
  have hS4 := hS.keep ((But.refl (fun _ => False) w3).alloc (.cells #[(.pointer (some ⟨rt, 0, none⟩)), (.iface 76 (.pointer (some ⟨sm, 0, none⟩))), (.iface 73 (.pointer (some ⟨ar, 0, none⟩))), .slice (some ⟨e0, 0, none⟩) 0 0] 43)) (fun _ h => h.elim)
  have hcv := h_new w3 (.cells #[(.pointer (some ⟨rt, 0, none⟩)), (.iface 76 (.pointer (some ⟨sm, 0, none⟩))), (.iface 73 (.pointer (some ⟨ar, 0, none⟩))), .slice (some ⟨e0, 0, none⟩) 0 0] 43)
  have B4 := (q3.below (B := w0.heap.size) (Nat.le_refl _) (fun _ h => h.elim)).alloc q3.size (.cells #[(.pointer (some ⟨rt, 0, none⟩)), (.iface 76 (.pointer (some ⟨sm, 0, none⟩))), (.iface 73 (.pointer (some ⟨ar, 0, none⟩))), .slice (some ⟨e0, 0, none⟩) 0 0] 43)
  have lrt := lt_of hS.root
  clear hS0 hS
  have cv0 : (w3.alloc (.cells #[(.pointer (some ⟨rt, 0, none⟩)), (.iface 76 (.pointer (some ⟨sm, 0, none⟩))), (.iface 73 (.pointer (some ⟨ar, 0, none⟩))), .slice (some ⟨e0, 0, none⟩) 0 0] 43)).cell? ⟨w3.heap.size, 0, none⟩ = some (.pointer (some ⟨rt, 0, none⟩)) := cell_of hcv rfl
  go_wp2_with fail
  refine (zzVisit rt sm ar e0 [] _ (fun w' => But (fun _ => False) (w3.alloc (.cells #[(.pointer (some ⟨rt, 0, none⟩)), (.iface 76 (.pointer (some ⟨sm, 0, none⟩))), (.iface 73 (.pointer (some ⟨ar, 0, none⟩))), .slice (some ⟨e0, 0, none⟩) 0 0] 43)) w') (fun x w1 q1 => ?_)).mono ?_
  · refine (visit_short x t rt sm ar ag ca e0 [] w1 (hS4.keep q1 (fun _ h => h.elim)) (by simp)).mono ?_
    rintro e w' ⟨rfl, rfl⟩
    exact ⟨rfl, q1⟩
  rintro e w5 ⟨rfl, q5⟩
  have hrt5 := q5.keep id hS4.root
  have hcv5 := q5.keep id hcv
  have B5 := B4.trans (q5.below (B := w0.heap.size) B4.size (fun _ h => h.elim))
  have l5 := lt_of hcv5
  clear hS4 hcv B4 q5 cv0
  have cv0 : w5.cell? ⟨w3.heap.size, 0, none⟩ = some (.pointer (some ⟨rt, 0, none⟩)) := cell_of hcv5 rfl
  have cv1 : w5.cell? ⟨w3.heap.size, 1, none⟩ = some (.iface 76 (.pointer (some ⟨sm, 0, none⟩))) := cell_of hcv5 rfl
  have cv2 : w5.cell? ⟨w3.heap.size, 2, none⟩ = some (.iface 73 (.pointer (some ⟨ar, 0, none⟩))) := cell_of hcv5 rfl
  have cv3 : w5.cell? ⟨w3.heap.size, 3, none⟩ = some (.slice (some ⟨e0, 0, none⟩) 0 0) := cell_of hcv5 rfl
  go_wp2_with fail
  refine (sumRoot rt sm ar e0 0 76 sm _ hrt5).mono ?_
  clear cv0 cv1 cv2 cv3
  rintro e w6 ⟨rfl, q6⟩
  have hcv6 := q6.keep id hcv5
  have B6 := B5.trans (q6.below (B := w0.heap.size) B5.size (fun _ h => h.elim))
  have l6 := lt_of hcv6
  have l6' := B6.size
  have cv0 : w6.cell? ⟨w3.heap.size, 0, none⟩ = some (.pointer (some ⟨rt, 0, none⟩)) := cell_of hcv6 rfl
  have cv1 : w6.cell? ⟨w3.heap.size, 1, none⟩ = some (.iface 76 (.pointer (some ⟨sm, 0, none⟩))) := cell_of hcv6 rfl
  have cv2 : w6.cell? ⟨w3.heap.size, 2, none⟩ = some (.iface 73 (.pointer (some ⟨ar, 0, none⟩))) := cell_of hcv6 rfl
  have cv3 : w6.cell? ⟨w3.heap.size, 3, none⟩ = some (.slice (some ⟨e0, 0, none⟩) 0 0) := cell_of hcv6 rfl
  have hro : (w6.alloc (.cells #[(.iface 76 (.pointer (some ⟨sm, 0, none⟩)))] 47)).drew.heap[w6.heap.size]? = some (.cells #[(.iface 76 (.pointer (some ⟨sm, 0, none⟩)))] 47 (0, 0)) := h_new w6 (.cells #[(.iface 76 (.pointer (some ⟨sm, 0, none⟩)))] 47)
  go_wp2
  go_region_with (first | (go_at_call 15; refine (sumNode rt sm ar e0 0 _).mono ?_; rintro e w7 ⟨rfl, q7⟩; have m7 := cell_of (q7.keep id hro) (j := 0) rfl) | (go_at_call 11; refine (zzSame isPU sm _).mono ?_; rintro e w8 ⟨rfl, q8⟩))
  all_goals
    go_wp2
    go_ret
    exact ⟨rfl, ((B6.alloc B6.size (.cells #[(.iface 76 (.pointer (some ⟨sm, 0, none⟩)))] 47)).drew.trans (q7.below (B := w0.heap.size) (by simp; omega) (fun _ h => h.elim))).trans (q8.below (B := w0.heap.size) (by have := q7.size; simp at this; omega) (fun _ h => h.elim))⟩
theorem law13_out (sv : Option Addr) (n c : Nat) (t : Int) (h : 4096 < n ∨ t < 0 ∨ 4 < t) (w : World) :
    Calls Tryr.prog 4 #[.slice sv n c, .int .i64 t] w fun e w' => e = .returned (.bool true) ∧ Below w.heap.size w w' := by
  by_cases h1 : (1048576 : Int) < n
  · have hb1 : (!decide ((1048576 : Int) < n)) = false := by simp; omega
    go_enter Tryr.func4, Tryr.ntmps4
    go_wp2_with fail
    refine (bytes13 _ _ _ _ _).mono ?_
    rintro e w0 ⟨rfl, rfl⟩
    rw [hb1]
    go_wp2
    go_ret
    exact ⟨rfl, Below.refl _ _⟩
  · have hb1 : (!decide ((1048576 : Int) < n)) = true := by simp; omega
    by_cases h2 : (4096 : Int) < n
    · go_enter Tryr.func4, Tryr.ntmps4
      go_wp2_with fail
      refine (bytes13 _ _ _ _ _).mono ?_
      rintro e w0 ⟨rfl, rfl⟩
      rw [hb1]
      go_wp2
      go_ret
      exact ⟨rfl, Below.refl _ _⟩
    · by_cases h3 : t < 0
      · go_enter Tryr.func4, Tryr.ntmps4
        go_wp2_with fail
        refine (bytes13 _ _ _ _ _).mono ?_
        rintro e w0 ⟨rfl, rfl⟩
        rw [hb1]
        go_wp2
        go_ret
        exact ⟨rfl, Below.refl _ _⟩
      · have h4 : 4 < t := by omega
        go_enter Tryr.func4, Tryr.ntmps4
        go_wp2_with fail
        refine (bytes13 _ _ _ _ _).mono ?_
        rintro e w0 ⟨rfl, rfl⟩
        rw [hb1]
        go_wp2
        go_ret
        exact ⟨rfl, Below.refl _ _⟩
theorem law13 (sv : Option Addr) (c : Nat) (zs : List Int) (t : Int) (w : World) (hs : (sv = Option.none ∧ zs = [] ∧ c = 0) ∨ ∃ ad, sv = some ad ∧ ∀ j, j < zs.length → w.cell? (ad.add j) = some (.int .i64 (zs.getD j 0))) :
    Calls Tryr.prog 4 #[.slice sv zs.length c, .int .i64 t] w fun e w' => e = .returned (.bool true) ∧ Below w.heap.size w w' := by
  by_cases h : 4096 < zs.length ∨ t < 0 ∨ 4 < t
  · exact law13_out _ _ _ _ h w
  · have et : t = (t.toNat : Int) := by omega
    rw [et]
    rcases hs with ⟨rfl, rfl, rfl⟩ | ⟨ad, rfl, hc⟩
    · exact law13_nil t.toNat (by omega) w
    · by_cases h2 : 2 ≤ zs.length
      · exact law13_mid ad c zs h2 (by omega) t.toNat (by omega) w hc
      · exact law13_small ad c zs (by omega) t.toNat (by omega) w hc
end Go.Proofs.YtkgllpdcpmcmoaaReflFmt.opt
