/-
Row 11: the law's walk where the pair is merged. No condition.
-/
import Derived.Test.YtiddjmnknndcaaaReflFmtLaw11h
namespace Go.Proofs.YtiddjmnknndcaaaReflFmt.opt
open Go Go.Proofs Go.RowKit
set_option maxRecDepth 100000
set_option maxHeartbeats 40000000
theorem law11F (i j k t1 t2 : Nat) (x1 x2 : ByteArray) (hi : i ≤ 4) (hj : j ≤ 4) (hk : k ≤ 5) (ht1 : t1 ≤ 4) (ht2 : t2 ≤ 4) (hx1 : x1.size ≤ 4096) (hx2 : x2.size ≤ 4096) (m : Nat) (hm : cmbK i k = some m) (hij : i = j) (hx : x1 = x2) (ht : t1 = t2) (w : World) : Calls Tryr.prog 3 #[.int .i64 k, .int .i64 i, .int .i64 j, .string x1, .string x2, .int .i64 t1, .int .i64 t2] w fun e w' => e = .returned (.bool true) ∧ Below w.heap.size w w' := by
  have HE : Hid (i = j ∧ x1 = x2 ∧ t1 = t2) := ⟨hij, hx, ht⟩
  clear hij hx ht
  have hs1 : ¬ ((4096 : Int) < x1.size) := by omega
  have hs2 : ¬ ((4096 : Int) < x2.size) := by omega
  have gd0 : ¬ ((k : Int) < 0) := by omega
  have ge0 : ¬ ((5 : Int) < k) := by omega
  have gd1 : ¬ ((i : Int) < 0) := by omega
  have ge1 : ¬ ((4 : Int) < i) := by omega
  have gd2 : ¬ ((j : Int) < 0) := by omega
  have ge2 : ¬ ((4 : Int) < j) := by omega
  have gd3 : ¬ ((t1 : Int) < 0) := by omega
  have ge3 : ¬ ((4 : Int) < t1) := by omega
  have gd4 : ¬ ((t2 : Int) < 0) := by omega
  have ge4 : ¬ ((4 : Int) < t2) := by omega
  go_enter Tryr.func3, Tryr.ntmps3
  go_wp2_with fail
  refine (bytes11 _ _ _ _ _ x1 x2 _).mono ?_
  rintro e w0 ⟨rfl, rfl⟩
  rw [inBounds_of hx1 hx2]
  go_wp2_with fail
  clear hs1 hs2 gd0 ge0 gd1 ge1 gd2 ge2 gd3 ge3 gd4 ge4
  refine (zzOp k hk _).mono ?_
  rintro e w0 ⟨rfl, rfl⟩
  go_wp2_with fail
  refine (zzName i hi _).mono ?_
  rintro e w0 ⟨rfl, rfl⟩
  go_wp2_with fail
  refine (zzName j hj _).mono ?_
  rintro e w0 ⟨rfl, rfl⟩
  go_wp2_with fail
  refine (buildPred (opS k) (nmS i) (nmS j) x1 x2 t1 t2 ht1 ht2 _).mono ?_
  rintro e w1 ⟨rt, bn, a1, a2, p, q, l, r, ps, g1, g2, n1, n2, rfl, hr1, H1, lr0, q1⟩
  have lps := lt_of H1.parts
  have lrt := H1.far
  have hvc := h_new w1 (.cells #[(.pointer (some ⟨rt, 0, none⟩)), .slice (some ⟨ps, 0, none⟩) 7 7] 41)
  have hr2 := h_old (.cells #[(.pointer (some ⟨rt, 0, none⟩)), .slice (some ⟨ps, 0, none⟩) 7 7] 41) hr1
  have H2 := H1.same ((But.refl _ _).alloc (.cells #[(.pointer (some ⟨rt, 0, none⟩)), .slice (some ⟨ps, 0, none⟩) 7 7] 41))
  have Q2 := q1.alloc (.cells #[(.pointer (some ⟨rt, 0, none⟩)), .slice (some ⟨ps, 0, none⟩) 7 7] 41)
  clear hr1 H1 q1
  have cv0 : (w1.alloc (.cells #[(.pointer (some ⟨rt, 0, none⟩)), .slice (some ⟨ps, 0, none⟩) 7 7] 41)).cell? ⟨w1.heap.size, 0, none⟩ = some (.pointer (some ⟨rt, 0, none⟩)) := cell_of hvc rfl
  have cv1 : (w1.alloc (.cells #[(.pointer (some ⟨rt, 0, none⟩)), .slice (some ⟨ps, 0, none⟩) 7 7] 41)).cell? ⟨w1.heap.size, 1, none⟩ = some (.slice (some ⟨ps, 0, none⟩) 7 7) := cell_of hvc rfl
  go_wp2_with fail
  refine (zzVisitP rt ps _ (fun w' => ∃ nb g pr b2, w'.heap[rt]? = some (.cells #[(.iface 72 (.pointer (some ⟨nb, 0, none⟩)))] 45 (0, 0)) ∧ w'.heap[nb]? = some (.cells (nodeC 1 #[.string (nmS i), .slice (some ⟨g, 0, none⟩) 2 2, .bool false, .nilIface, .pointer none]) 78 (0, 0)) ∧ w'.heap[g]? = some (.cells #[(.iface 57 (.pointer (some ⟨a1, 0, none⟩))), (.iface 73 (.pointer (some ⟨pr, 0, none⟩)))] 45 (0, 0)) ∧ w'.heap[pr]? = some (.cells (nodeC 0 #[(.iface 79 (.pointer (some ⟨b2, 0, none⟩)))]) 75 (0, 0)) ∧ w'.heap[b2]? = some (.cells (nodeC 0 #[.string (opS m), (.iface 57 (.pointer (some ⟨p, 0, none⟩))), (.iface 57 (.pointer (some ⟨q, 0, none⟩)))]) 81 (0, 0)) ∧ But (fun k => k = rt) (w1.alloc (.cells #[(.pointer (some ⟨rt, 0, none⟩)), .slice (some ⟨ps, 0, none⟩) 7 7] 41)) w') (fun x w2 qq => ?_)).mono ?_
  · skip
    have hEE := HE.out
    obtain ⟨hij, hx, ht⟩ := hEE
    refine (visit_fire x i j k x1 x2 t1 t2 rt bn a1 a2 p q l r ps g1 g2 n1 n2 _ (qq.keep id hr2) (H2.same qq) hi hj hk m (k3 hm) hm hij ht1 ht2 ht hx).mono ?_
    rintro e w' ⟨rfl, nb, g, pr, b2, y1, y2, y3, y4, y5, q'⟩
    exact ⟨rfl, nb, g, pr, b2, y1, y2, y3, y4, y5, (qq.mono (fun _ h => h.elim)).trans q'⟩
  clear cv0 cv1
  rintro e w2 ⟨rfl, nb, g, pr, b2, hr3, y1, y2, y3, y4, q2⟩
  have H3 := H2.keepR q2
  have hvc3 := q2.keep (by omega) hvc
  have B3 := (Q2.below (B := w0.heap.size) (Nat.le_refl _) (fun _ h => h.elim)).trans (q2.below (B := w0.heap.size) Q2.size (fun k hk => by omega))
  have s2 := q2.size
  rw [World.size_alloc] at s2
  clear hr2 H2 hvc Q2 q2
  have cv0 : w2.cell? ⟨w1.heap.size, 0, none⟩ = some (.pointer (some ⟨rt, 0, none⟩)) := cell_of hvc3 rfl
  have cv1 : w2.cell? ⟨w1.heap.size, 1, none⟩ = some (.slice (some ⟨ps, 0, none⟩) 7 7) := cell_of hvc3 rfl
  go_wp2_with fail
  refine (predRoot rt ps 72 nb _ hr3).mono ?_
  clear cv0 cv1
  rintro e w3 ⟨rfl, q3⟩
  have q3a := q3.alloc (.cells #[(.iface 72 (.pointer (some ⟨nb, 0, none⟩)))] 47)
  have s3 := q3.size
  have T3 : TailF w0 (w3.alloc (.cells #[(.iface 72 (.pointer (some ⟨nb, 0, none⟩)))] 47)) (opS k) (nmS i) (nmS j) x1 x2 t1 t2 rt bn a1 a2 p q l r ps g1 g2 n1 n2 w1.heap.size w3.heap.size nb g pr b2 (opS m) := ⟨H3.same q3a, q3a.keep id hvc3, h_new w3 _, q3a.keep id y1, q3a.keep id y2, q3a.keep id y3, q3a.keep id y4, B3.trans (q3a.below B3.size (fun _ h => h.elim))⟩
  have l31 : w1.heap.size < w3.heap.size := by omega
  clear hr3 H3 hvc3 B3 q3 q3a y1 y2 y3 y4
  obtain ⟨d0, d1, d2⟩ := T3.s
  go_wp2_with fail
  clear d0 d1 d2
  refine (predPart0 rt ps 79 bn _ (cell_of T3.pred.parts rfl)).mono ?_
  rintro e w4 ⟨rfl, q4⟩
  have q4a := q4.alloc (.cells #[(.iface 79 (.pointer (some ⟨bn, 0, none⟩)))] 47)
  have s4 := q4.size
  rw [World.size_alloc] at s4
  have T4 := T3.same q4a
  have l41 : w1.heap.size < w4.heap.size := by omega
  have l43 : w3.heap.size < w4.heap.size := by omega
  clear q4 q4a T3
  go_wp2_with fail
  refine (zzCombT i k m hm _).mono ?_
  rintro e w5 ⟨rfl, rfl⟩
  have hEE := HE.out
  obtain ⟨hij, hx, ht⟩ := hEE
  have ei1 : ((i : Int) == j) = true := by rw [beq_iff_eq]; omega
  have ei2 : (i : Int) = j := by omega
  have ex1 : (x1.toList == x2.toList) = true := by rw [hx]; exact beq_self_eq_true _
  have et1 : ((t1 : Int) == t2) = true := by rw [beq_iff_eq]; omega
  have et2 : (t1 : Int) = t2 := by omega
  clear hij hx ht
  obtain ⟨d0, d1, d2⟩ := T4.s
  go_wp2_with fail
  clear d0 d1 d2
  refine (builtinName nb 1 (nmS i) _ _ _ _ _ T4.nb).mono ?_
  rintro e w5 ⟨rfl, q5⟩
  have T5 := T4.same q5
  obtain ⟨d0, d1, d2⟩ := T5.s
  go_wp2_with fail
  clear d0 d1 d2
  refine (builtinArgCount nb 1 (some ⟨g, 0, none⟩) 2 2 _ _ _ _ _ T5.nb).mono ?_
  rintro e w6 ⟨rfl, q6⟩
  have T6 := T5.same q6
  obtain ⟨d0, d1, d2⟩ := T6.s
  go_wp2_with fail
  clear d0 d1 d2
  have key := typeTag isPU nb 1 78 (by omega) _ _ T6.nb
  rw [show tag 1 = 1 from rfl] at key
  refine (key).mono ?_
  rintro e w7 ⟨rfl, q7⟩
  have T7 := T6.same q7
  obtain ⟨d0, d1, d2⟩ := T7.s
  go_wp2
  have TD := T7.same (But.refl _ _).drew
  have S0 := TD.s
  go_region_held3 (fun w' => w'.cell? ⟨w3.heap.size, 0, none⟩ = some (.iface 72 (.pointer (some ⟨nb, 0, none⟩))) ∧ w'.cell? ⟨w1.heap.size, 0, none⟩ = some (.pointer (some ⟨rt, 0, none⟩)) ∧ w'.cell? ⟨w1.heap.size, 1, none⟩ = some (.slice (some ⟨ps, 0, none⟩) 7 7)) (assumption) (first
    | (go_at_call 18; with_reducible refine (builtinArg0 nb 1 g 2 57 a1 _ _ _ _ _ (TailF.nb (by assumption)) (TailF.g0 (by assumption))).mono ?_; rintro e wN ⟨rfl, qN⟩; have hN := TailF.same qN (by assumption); have SN := hN.s)
    | (go_at_call 10; with_reducible refine (predPart1 rt ps 57 a1 _ (PredAt.part1 (TailF.pred (by assumption)))).mono ?_; rintro e wN ⟨rfl, qN⟩; have hN := TailF.same qN (by assumption); have SN := hN.s)
    | (go_at_call 12; with_reducible refine (zzSame isPD a1 _).mono ?_; rintro e wN ⟨rfl, qN⟩; have hN := TailF.same qN (by assumption); have SN := hN.s)
  )
  all_goals
    obtain ⟨d0, d1, d2⟩ := hN.s
    go_wp2_with fail
    clear d0 d1 d2
    refine (builtinArg1 nb 1 g 2 73 pr _ _ _ _ _ hN.nb hN.g1).mono ?_
    rintro e w8 ⟨rfl, q8⟩
    have T8 := hN.same q8
    go_wp2_with fail
    refine (predBody pr 0 79 b2 _ T8.pr).mono ?_
    rintro e w9 ⟨rfl, q9⟩
    have T9 := T8.same q9
    have G9 : TailG w0 (w9.alloc (.cells #[(.iface 79 (.pointer (some ⟨b2, 0, none⟩)))] 47)) (opS k) (nmS i) (nmS j) x1 x2 t1 t2 rt bn a1 a2 p q l r ps g1 g2 n1 n2 w1.heap.size w3.heap.size nb g pr b2 (opS m) w9.heap.size := ⟨T9.same ((But.refl (fun _ => False) w9).alloc (.cells #[(.iface 79 (.pointer (some ⟨b2, 0, none⟩)))] 47)), h_new w9 _⟩
    obtain ⟨d0, d1, d2⟩ := G9.s
    go_wp2_with fail
    clear d0 d1 d2
    refine (binOp b2 0 (opS m) _ _ _ G9.f.b2).mono ?_
    rintro e w10 ⟨rfl, q10⟩
    have G10 := G9.same q10
    clear T8 T9 G9 q8 q9 q10
    obtain ⟨d0, d1, d2⟩ := G10.s
    go_wp2
    have GD := G10.same (But.refl _ _).drew
    have SG := GD.s
    go_region_held3 (fun w' => w'.cell? ⟨w9.heap.size, 0, none⟩ = some (.iface 79 (.pointer (some ⟨b2, 0, none⟩))) ∧ w'.cell? ⟨w1.heap.size, 0, none⟩ = some (.pointer (some ⟨rt, 0, none⟩)) ∧ w'.cell? ⟨w1.heap.size, 1, none⟩ = some (.slice (some ⟨ps, 0, none⟩) 7 7)) (assumption) (first
    | (go_at_call 13; with_reducible refine (binLeft b2 0 _ _ 57 p _ (TailF.b2 (TailG.f (by assumption)))).mono ?_; rintro e wN ⟨rfl, qN⟩; have hN := TailG.same qN (by assumption); have SN := hN.s)
    | (go_at_call 10; with_reducible refine (predPart3 rt ps 57 p _ (PredAt.part3 (TailF.pred (TailG.f (by assumption))))).mono ?_; rintro e wN ⟨rfl, qN⟩; have hN := TailG.same qN (by assumption); have SN := hN.s)
    | (go_at_call 12; with_reducible refine (zzSame isPD p _).mono ?_; rintro e wN ⟨rfl, qN⟩; have hN := TailG.same qN (by assumption); have SN := hN.s)
    | (go_at_call 14; with_reducible refine (binRight b2 0 _ _ 57 q _ (TailF.b2 (TailG.f (by assumption)))).mono ?_; rintro e wN ⟨rfl, qN⟩; have hN := TailG.same qN (by assumption); have SN := hN.s)
    | (go_at_call 10; with_reducible refine (predPart4 rt ps 57 q _ (PredAt.part4 (TailF.pred (TailG.f (by assumption))))).mono ?_; rintro e wN ⟨rfl, qN⟩; have hN := TailG.same qN (by assumption); have SN := hN.s)
    | (go_at_call 12; with_reducible refine (zzSame isPD q _).mono ?_; rintro e wN ⟨rfl, qN⟩; have hN := TailG.same qN (by assumption); have SN := hN.s)
    )
    all_goals
      go_wp2
      go_ret
      exact ⟨rfl, hN.f.below⟩
end Go.Proofs.YtiddjmnknndcaaaReflFmt.opt
