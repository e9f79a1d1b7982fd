/-
Row 11: the law's walk where nothing is rewritten. No condition.
-/
import Derived.Test.YtiddjmnknndcaaaReflFmtLaw11h
namespace Go.Proofs.YtiddjmnknndcaaaReflFmt.opt
open Go Go.Proofs Go.RowKit
set_option maxRecDepth 100000
set_option maxHeartbeats 40000000
theorem law11C (i j k t1 t2 : Nat) (x1 x2 : ByteArray) (hi : i ≤ 4) (hj : j ≤ 4) (hk : k ≤ 5) (ht1 : t1 ≤ 4) (ht2 : t2 ≤ 4) (hx1 : x1.size ≤ 4096) (hx2 : x2.size ≤ 4096) (m : Nat) (hm : cmbK i k = some m) (hij : i = j) (hx : x1 ≠ x2) (w : World) : Calls Tryr.prog 3 #[.int .i64 k, .int .i64 i, .int .i64 j, .string x1, .string x2, .int .i64 t1, .int .i64 t2] w fun e w' => e = .returned (.bool true) ∧ Below w.heap.size w w' := by
  have HE : Hid (i = j) := hij
  clear hij
  have hs1 : ¬ ((4096 : Int) < x1.size) := by omega
  have hs2 : ¬ ((4096 : Int) < x2.size) := by omega
  have gd0 : ¬ ((k : Int) < 0) := by omega
  have ge0 : ¬ ((5 : Int) < k) := by omega
  have gd1 : ¬ ((i : Int) < 0) := by omega
  have ge1 : ¬ ((4 : Int) < i) := by omega
  have gd2 : ¬ ((j : Int) < 0) := by omega
  have ge2 : ¬ ((4 : Int) < j) := by omega
  have gd3 : ¬ ((t1 : Int) < 0) := by omega
  have ge3 : ¬ ((4 : Int) < t1) := by omega
  have gd4 : ¬ ((t2 : Int) < 0) := by omega
  have ge4 : ¬ ((4 : Int) < t2) := by omega
  go_enter Tryr.func3, Tryr.ntmps3
  go_wp2_with fail
  refine (bytes11 _ _ _ _ _ x1 x2 _).mono ?_
  rintro e w0 ⟨rfl, rfl⟩
  rw [inBounds_of hx1 hx2]
  go_wp2_with fail
  clear hs1 hs2 gd0 ge0 gd1 ge1 gd2 ge2 gd3 ge3 gd4 ge4
  refine (zzOp k hk _).mono ?_
  rintro e w0 ⟨rfl, rfl⟩
  go_wp2_with fail
  refine (zzName i hi _).mono ?_
  rintro e w0 ⟨rfl, rfl⟩
  go_wp2_with fail
  refine (zzName j hj _).mono ?_
  rintro e w0 ⟨rfl, rfl⟩
  go_wp2_with fail
  refine (buildPred (opS k) (nmS i) (nmS j) x1 x2 t1 t2 ht1 ht2 _).mono ?_
  rintro e w1 ⟨rt, bn, a1, a2, p, q, l, r, ps, g1, g2, n1, n2, rfl, hr1, H1, lr0, q1⟩
  have lps := lt_of H1.parts
  have lrt := H1.far
  have hvc := h_new w1 (.cells #[(.pointer (some ⟨rt, 0, none⟩)), .slice (some ⟨ps, 0, none⟩) 7 7] 41)
  have hr2 := h_old (.cells #[(.pointer (some ⟨rt, 0, none⟩)), .slice (some ⟨ps, 0, none⟩) 7 7] 41) hr1
  have H2 := H1.same ((But.refl _ _).alloc (.cells #[(.pointer (some ⟨rt, 0, none⟩)), .slice (some ⟨ps, 0, none⟩) 7 7] 41))
  have Q2 := q1.alloc (.cells #[(.pointer (some ⟨rt, 0, none⟩)), .slice (some ⟨ps, 0, none⟩) 7 7] 41)
  clear hr1 H1 q1
  have cv0 : (w1.alloc (.cells #[(.pointer (some ⟨rt, 0, none⟩)), .slice (some ⟨ps, 0, none⟩) 7 7] 41)).cell? ⟨w1.heap.size, 0, none⟩ = some (.pointer (some ⟨rt, 0, none⟩)) := cell_of hvc rfl
  have cv1 : (w1.alloc (.cells #[(.pointer (some ⟨rt, 0, none⟩)), .slice (some ⟨ps, 0, none⟩) 7 7] 41)).cell? ⟨w1.heap.size, 1, none⟩ = some (.slice (some ⟨ps, 0, none⟩) 7 7) := cell_of hvc rfl
  go_wp2_with fail
  refine (zzVisitP rt ps _ (fun w' => But (fun _ => False) (w1.alloc (.cells #[(.pointer (some ⟨rt, 0, none⟩)), .slice (some ⟨ps, 0, none⟩) 7 7] 41)) w') (fun x w2 qq => ?_)).mono ?_
  · skip
    have hEE := HE.out
    have hij := hEE
    refine (visit_words x i j k x1 x2 t1 t2 rt bn a1 a2 p q l r ps g1 g2 n1 n2 _ (qq.keep id hr2) (H2.same qq) hi hj hk m (k3 hm) hm hij ht1 ht2 hx).mono ?_
    rintro e w' ⟨rfl, q'⟩
    exact ⟨rfl, qq.trans q'⟩
  clear cv0 cv1
  rintro e w2 ⟨rfl, q2⟩
  have hr3 := q2.keep id hr2
  have H3 := H2.same q2
  have hvc3 := q2.keep id hvc
  have Q3 := Q2.trans q2
  have s2 := q2.size
  rw [World.size_alloc] at s2
  clear hr2 H2 hvc Q2 q2
  have cv0 : w2.cell? ⟨w1.heap.size, 0, none⟩ = some (.pointer (some ⟨rt, 0, none⟩)) := cell_of hvc3 rfl
  have cv1 : w2.cell? ⟨w1.heap.size, 1, none⟩ = some (.slice (some ⟨ps, 0, none⟩) 7 7) := cell_of hvc3 rfl
  go_wp2_with fail
  refine (predRoot rt ps 79 bn _ hr3).mono ?_
  clear cv0 cv1
  rintro e w3 ⟨rfl, q3⟩
  have q3a := q3.alloc (.cells #[(.iface 79 (.pointer (some ⟨bn, 0, none⟩)))] 47)
  have H4 := H3.same q3a
  have hvc4 := q3a.keep id hvc3
  have hvr4 := h_new w3 (.cells #[(.iface 79 (.pointer (some ⟨bn, 0, none⟩)))] 47)
  have Q4 := Q3.trans q3a
  have s3 := q3.size
  have l31 : w1.heap.size < w3.heap.size := by omega
  clear hr3 H3 hvc3 Q3 q3
  have cv0 : (w3.alloc (.cells #[(.iface 79 (.pointer (some ⟨bn, 0, none⟩)))] 47)).cell? ⟨w1.heap.size, 0, none⟩ = some (.pointer (some ⟨rt, 0, none⟩)) := cell_of hvc4 rfl
  have cv1 : (w3.alloc (.cells #[(.iface 79 (.pointer (some ⟨bn, 0, none⟩)))] 47)).cell? ⟨w1.heap.size, 1, none⟩ = some (.slice (some ⟨ps, 0, none⟩) 7 7) := cell_of hvc4 rfl
  go_wp2_with fail
  refine (predPart0 rt ps 79 bn _ (cell_of H4.parts rfl)).mono ?_
  clear cv0 cv1
  rintro e w4 ⟨rfl, q4⟩
  have q4a := q4.alloc (.cells #[(.iface 79 (.pointer (some ⟨bn, 0, none⟩)))] 47)
  have s4 := q4.size
  rw [World.size_alloc] at s4
  have TT : TailN w0 (w4.alloc (.cells #[(.iface 79 (.pointer (some ⟨bn, 0, none⟩)))] 47)) (opS k) (nmS i) (nmS j) x1 x2 t1 t2 rt bn a1 a2 p q l r ps g1 g2 n1 n2 w1.heap.size w3.heap.size w4.heap.size := ⟨H4.same q4a, q4a.keep id hvc4, q4a.keep id hvr4, h_new w4 _, (Q4.trans q4a).below (Nat.le_refl _) (fun _ h => h.elim)⟩
  have l41 : w1.heap.size < w4.heap.size := by omega
  have l43 : w3.heap.size < w4.heap.size := by omega
  clear hvc4 hvr4 H4 Q4 q4 q4a q3a s2 s3 s4
  go_wp2_with fail
  refine (zzCombT i k m hm _).mono ?_
  rintro e w5 ⟨rfl, rfl⟩
  have hEE := HE.out
  have hij := hEE
  have ei1 : ((i : Int) == j) = true := by rw [beq_iff_eq]; omega
  have ei2 : (i : Int) = j := by omega
  have nx1 : (x1.toList == x2.toList) = false := by rw [beq_eq_false_iff_ne]; exact fun e => hx (toListInj e)
  clear hij hEE
  go_wp2
  have TD := TT.same (But.refl _ _).drew
  have S0 := TD.s
  go_region_held3 (fun w' => w'.cell? ⟨w3.heap.size, 0, none⟩ = some (.iface 79 (.pointer (some ⟨bn, 0, none⟩))) ∧ w'.cell? ⟨w4.heap.size, 0, none⟩ = some (.iface 79 (.pointer (some ⟨bn, 0, none⟩))) ∧ w'.cell? ⟨w1.heap.size, 0, none⟩ = some (.pointer (some ⟨rt, 0, none⟩)) ∧ w'.cell? ⟨w1.heap.size, 1, none⟩ = some (.slice (some ⟨ps, 0, none⟩) 7 7)) (assumption) (first
    | (go_at_call 12; with_reducible refine (zzSame isPB bn _).mono ?_; rintro e wN ⟨rfl, qN⟩; have hN := TailN.same qN (by assumption); have SN := hN.s)
    | (go_at_call 13; with_reducible refine (binLeft bn 1 _ _ 72 l _ (PredAt.bin (TailN.pred (by assumption)))).mono ?_; rintro e wN ⟨rfl, qN⟩; have hN := TailN.same qN (by assumption); have SN := hN.s)
    | (go_at_call 10; with_reducible refine (predPart5 rt ps 72 l _ (PredAt.part5 (TailN.pred (by assumption)))).mono ?_; rintro e wN ⟨rfl, qN⟩; have hN := TailN.same qN (by assumption); have SN := hN.s)
    | (go_at_call 12; with_reducible refine (zzSame isPU l _).mono ?_; rintro e wN ⟨rfl, qN⟩; have hN := TailN.same qN (by assumption); have SN := hN.s)
    | (go_at_call 14; with_reducible refine (binRight bn 1 _ _ 72 r _ (PredAt.bin (TailN.pred (by assumption)))).mono ?_; rintro e wN ⟨rfl, qN⟩; have hN := TailN.same qN (by assumption); have SN := hN.s)
    | (go_at_call 10; with_reducible refine (predPart6 rt ps 72 r _ (PredAt.part6 (TailN.pred (by assumption)))).mono ?_; rintro e wN ⟨rfl, qN⟩; have hN := TailN.same qN (by assumption); have SN := hN.s)
    | (go_at_call 12; with_reducible refine (zzSame isPU r _).mono ?_; rintro e wN ⟨rfl, qN⟩; have hN := TailN.same qN (by assumption); have SN := hN.s)
  )
  all_goals
    go_wp2
    go_ret
    exact ⟨rfl, hN.below⟩
end Go.Proofs.YtiddjmnknndcaaaReflFmt.opt
