/-
The law's walk: FnComparableToSymmetricReflexive returns true at every two bytes. No condition.
-/
import Derived.Test.YtmpppalkbgfpcaaReflLaw3
namespace Go.Proofs.YtmpppalkbgfpcaaRefl.nat
open Go Go.Proofs Go.RowKit
set_option maxRecDepth 100000
set_option maxHeartbeats 4000000
theorem law6 (a b : Int) (ha : 0 ≤ a ∧ a ≤ 255) (hb : 0 ≤ b ∧ b ≤ 255) (w : World) : Calls Tryr.prog 4 #[.int .u8 a, .int .u8 b] w fun e w' => e = .returned (.bool true) ∧ Below w.heap.size w w' := by
  obtain ⟨i, hi, hi17⟩ := rem17 a ha.1
  obtain ⟨j, hj, hj17⟩ := rem17 b hb.1
  have sT := storeT
  go_enter Tryr.func4, Tryr.ntmps4
  go_wp2_with fail
  have hc0 : CacheAt w.heap.size (w.alloc (.cells #[.map none, .map none] 40)) w.heap.size .no (.pointer none) := ⟨Nat.le_refl _, .inl ⟨rfl, h_new _ _⟩, fun h => by cases h⟩
  have T0 := (Turned.refl w.heap.size w).alloc (Nat.le_refl _) (.cells #[.map none, .map none] 40)
  refine (codeN i hi17 _).mono ?_
  rintro e w1 ⟨px, gx, rfl, hb1⟩
  have hc1 := (hc0.grow hb1).alloc (.cells #[tyV (nt i).ty, .int .u64 (nt i).k, (.pointer px), .pointer none, .bool (nt i).nl, .bool false, .bool false, .bool (nt i).i, .bool (nt i).f] 47)
  have T1 := (T0.grow (Nat.le_refl _) hb1).alloc (T0.grow (Nat.le_refl _) hb1).size (.cells #[tyV (nt i).ty, .int .u64 (nt i).k, (.pointer px), .pointer none, .bool (nt i).nl, .bool false, .bool false, .bool (nt i).i, .bool (nt i).f] 47)
  have Hx1 : Has (w1.alloc (.cells #[tyV (nt i).ty, .int .u64 (nt i).k, (.pointer px), .pointer none, .bool (nt i).nl, .bool false, .bool false, .bool (nt i).i, .bool (nt i).f] 47)) w1.heap.size (nt i) (.pointer px) := h_new _ _
  clear hb1 hc0 T0 
  go_wp2_with fail
  refine (codeN j hj17 _).mono ?_
  rintro e w2 ⟨py, gy, rfl, hb2⟩
  have hc2 := (hc1.grow hb2).alloc (.cells #[tyV (nt j).ty, .int .u64 (nt j).k, (.pointer py), .pointer none, .bool (nt j).nl, .bool false, .bool false, .bool (nt j).i, .bool (nt j).f] 47)
  have T2 := (T1.grow (Nat.le_refl _) hb2).alloc (T1.grow (Nat.le_refl _) hb2).size (.cells #[tyV (nt j).ty, .int .u64 (nt j).k, (.pointer py), .pointer none, .bool (nt j).nl, .bool false, .bool false, .bool (nt j).i, .bool (nt j).f] 47)
  have Hx2 := (Hx1.grow hb2).alloc (.cells #[tyV (nt j).ty, .int .u64 (nt j).k, (.pointer py), .pointer none, .bool (nt j).nl, .bool false, .bool false, .bool (nt j).i, .bool (nt j).f] 47)
  have Hy2 : Has (w2.alloc (.cells #[tyV (nt j).ty, .int .u64 (nt j).k, (.pointer py), .pointer none, .bool (nt j).nl, .bool false, .bool false, .bool (nt j).i, .bool (nt j).f] 47)) w2.heap.size (nt j) (.pointer py) := h_new _ _
  clear hb2 hc1 T1 Hx1
  go_wp2_with fail
  refine (codeN i hi17 _).mono ?_
  rintro e w3 ⟨pz, gz, rfl, hb3⟩
  have hc3 := (hc2.grow hb3).alloc (.cells #[tyV (nt i).ty, .int .u64 (nt i).k, (.pointer pz), .pointer none, .bool (nt i).nl, .bool false, .bool false, .bool (nt i).i, .bool (nt i).f] 47)
  have T3 := (T2.grow (Nat.le_refl _) hb3).alloc (T2.grow (Nat.le_refl _) hb3).size (.cells #[tyV (nt i).ty, .int .u64 (nt i).k, (.pointer pz), .pointer none, .bool (nt i).nl, .bool false, .bool false, .bool (nt i).i, .bool (nt i).f] 47)
  have Hx3 := (Hx2.grow hb3).alloc (.cells #[tyV (nt i).ty, .int .u64 (nt i).k, (.pointer pz), .pointer none, .bool (nt i).nl, .bool false, .bool false, .bool (nt i).i, .bool (nt i).f] 47)
  have Hy3 := (Hy2.grow hb3).alloc (.cells #[tyV (nt i).ty, .int .u64 (nt i).k, (.pointer pz), .pointer none, .bool (nt i).nl, .bool false, .bool false, .bool (nt i).i, .bool (nt i).f] 47)
  have Hz3 : Has (w3.alloc (.cells #[tyV (nt i).ty, .int .u64 (nt i).k, (.pointer pz), .pointer none, .bool (nt i).nl, .bool false, .bool false, .bool (nt i).i, .bool (nt i).f] 47)) w3.heap.size (nt i) (.pointer pz) := h_new _ _
  clear hb3 hc2 T2 Hx2 Hy2
  go_wp2_with fail
  refine (codeN 0 (by decide) _).mono ?_
  rintro e w4 ⟨pu, gu, rfl, hb4⟩
  obtain rfl : pu = none := by injection gu (by decide)
  clear gu
  have hc4 := (hc3.grow hb4).alloc (.cells #[tyV (nt 0).ty, .int .u64 (nt 0).k, (.pointer none), .pointer none, .bool (nt 0).nl, .bool false, .bool false, .bool (nt 0).i, .bool (nt 0).f] 47)
  have T4 := (T3.grow (Nat.le_refl _) hb4).alloc (T3.grow (Nat.le_refl _) hb4).size (.cells #[tyV (nt 0).ty, .int .u64 (nt 0).k, (.pointer none), .pointer none, .bool (nt 0).nl, .bool false, .bool false, .bool (nt 0).i, .bool (nt 0).f] 47)
  have Hx4 := (Hx3.grow hb4).alloc (.cells #[tyV (nt 0).ty, .int .u64 (nt 0).k, (.pointer none), .pointer none, .bool (nt 0).nl, .bool false, .bool false, .bool (nt 0).i, .bool (nt 0).f] 47)
  have Hy4 := (Hy3.grow hb4).alloc (.cells #[tyV (nt 0).ty, .int .u64 (nt 0).k, (.pointer none), .pointer none, .bool (nt 0).nl, .bool false, .bool false, .bool (nt 0).i, .bool (nt 0).f] 47)
  have Hz4 := (Hz3.grow hb4).alloc (.cells #[tyV (nt 0).ty, .int .u64 (nt 0).k, (.pointer none), .pointer none, .bool (nt 0).nl, .bool false, .bool false, .bool (nt 0).i, .bool (nt 0).f] 47)
  have Hu4 : Has (w4.alloc (.cells #[tyV (nt 0).ty, .int .u64 (nt 0).k, (.pointer none), .pointer none, .bool (nt 0).nl, .bool false, .bool false, .bool (nt 0).i, .bool (nt 0).f] 47)) w4.heap.size (nt 0) (.pointer none) := h_new _ _
  clear hb4 hc3 T3 Hx3 Hy3 Hz3
  go_wp2_with fail
  refine (codeN 1 (by decide) _).mono ?_
  rintro e w5 ⟨pl, gl, rfl, hb5⟩
  obtain rfl : pl = none := by injection gl (by decide)
  clear gl
  have hc5 := (hc4.grow hb5).alloc (.cells #[tyV (nt 1).ty, .int .u64 (nt 1).k, (.pointer none), .pointer none, .bool (nt 1).nl, .bool false, .bool false, .bool (nt 1).i, .bool (nt 1).f] 47)
  have T5 := (T4.grow (Nat.le_refl _) hb5).alloc (T4.grow (Nat.le_refl _) hb5).size (.cells #[tyV (nt 1).ty, .int .u64 (nt 1).k, (.pointer none), .pointer none, .bool (nt 1).nl, .bool false, .bool false, .bool (nt 1).i, .bool (nt 1).f] 47)
  have Hx5 := (Hx4.grow hb5).alloc (.cells #[tyV (nt 1).ty, .int .u64 (nt 1).k, (.pointer none), .pointer none, .bool (nt 1).nl, .bool false, .bool false, .bool (nt 1).i, .bool (nt 1).f] 47)
  have Hy5 := (Hy4.grow hb5).alloc (.cells #[tyV (nt 1).ty, .int .u64 (nt 1).k, (.pointer none), .pointer none, .bool (nt 1).nl, .bool false, .bool false, .bool (nt 1).i, .bool (nt 1).f] 47)
  have Hz5 := (Hz4.grow hb5).alloc (.cells #[tyV (nt 1).ty, .int .u64 (nt 1).k, (.pointer none), .pointer none, .bool (nt 1).nl, .bool false, .bool false, .bool (nt 1).i, .bool (nt 1).f] 47)
  have Hu5 := (Hu4.grow hb5).alloc (.cells #[tyV (nt 1).ty, .int .u64 (nt 1).k, (.pointer none), .pointer none, .bool (nt 1).nl, .bool false, .bool false, .bool (nt 1).i, .bool (nt 1).f] 47)
  have Hl5 : Has (w5.alloc (.cells #[tyV (nt 1).ty, .int .u64 (nt 1).k, (.pointer none), .pointer none, .bool (nt 1).nl, .bool false, .bool false, .bool (nt 1).i, .bool (nt 1).f] 47)) w5.heap.size (nt 1) (.pointer none) := h_new _ _
  clear hb5 hc4 T4 Hx4 Hy4 Hz4 Hu4
  have c0 := cell_of (j := 0) Hy5 rfl
  have c1 := cell_of (j := 1) Hy5 rfl
  have c2 := cell_of (j := 2) Hy5 rfl
  have c3 := cell_of (j := 3) Hy5 rfl
  have c4 := cell_of (j := 4) Hy5 rfl
  have c5 := cell_of (j := 5) Hy5 rfl
  have c6 := cell_of (j := 6) Hy5 rfl
  have c7 := cell_of (j := 7) Hy5 rfl
  have c8 := cell_of (j := 8) Hy5 rfl
  go_wp2_with fail
  refine (cmpN i j hi17 hj17 hc5 Hx5 gx gy T5.size).mono ?_
  rintro e w6 ⟨rfl, s6, v6, hc6, t6⟩
  have T6 := T5.trans t6
  have Hx6 := Hx5.kept t6
  have Hy6 := Hy5.kept t6
  have Hz6 := Hz5.kept t6
  have Hu6 := Hu5.kept t6
  have Hl6 := Hl5.kept t6
  clear c0 c1 c2 c3 c4 c5 c6 c7 c8
  clear hc5 T5 t6 Hx5 Hy5 Hz5 Hu5 Hl5
  clear sT
  have c0 := cell_of (j := 0) Hx6 rfl
  have c1 := cell_of (j := 1) Hx6 rfl
  have c2 := cell_of (j := 2) Hx6 rfl
  have c3 := cell_of (j := 3) Hx6 rfl
  have c4 := cell_of (j := 4) Hx6 rfl
  have c5 := cell_of (j := 5) Hx6 rfl
  have c6 := cell_of (j := 6) Hx6 rfl
  have c7 := cell_of (j := 7) Hx6 rfl
  have c8 := cell_of (j := 8) Hx6 rfl
  go_wp2_with fail
  refine (cmpN j i hj17 hi17 hc6 Hy6 gy gx T6.size).mono ?_
  rintro e w7 ⟨rfl, s7, v7, hc7, t7⟩
  have T7 := T6.trans t7
  have Hx7 := Hx6.kept t7
  have Hy7 := Hy6.kept t7
  have Hz7 := Hz6.kept t7
  have Hu7 := Hu6.kept t7
  have Hl7 := Hl6.kept t7
  clear c0 c1 c2 c3 c4 c5 c6 c7 c8
  clear hc6 T6 t7 Hx6 Hy6 Hz6 Hu6 Hl6
  rw [symm ⟨i, hi17⟩ ⟨j, hj17⟩]
  simp only
  have hR : ∀ r : Bool, (r != r) = false := by decide
  generalize cmpB (nt i) (nt j) = r
  have R := refl ⟨i, hi17⟩
  obtain ⟨R1, R2, R3, R4, R5⟩ := R
  simp only at R1 R2 R3 R4 R5
  cases r
  all_goals
    have c0 := cell_of (j := 0) Hz7 rfl
    have c1 := cell_of (j := 1) Hz7 rfl
    have c2 := cell_of (j := 2) Hz7 rfl
    have c3 := cell_of (j := 3) Hz7 rfl
    have c4 := cell_of (j := 4) Hz7 rfl
    have c5 := cell_of (j := 5) Hz7 rfl
    have c6 := cell_of (j := 6) Hz7 rfl
    have c7 := cell_of (j := 7) Hz7 rfl
    have c8 := cell_of (j := 8) Hz7 rfl
    go_wp2_with fail
    refine (cmpN i i hi17 hi17 hc7 Hx7 gx gz T7.size).mono ?_
    rintro e w8 ⟨rfl, s8, v8, hc8, t8⟩
    have T8 := T7.trans t8
    have Hx8 := Hx7.kept t8
    have Hy8 := Hy7.kept t8
    have Hz8 := Hz7.kept t8
    have Hu8 := Hu7.kept t8
    have Hl8 := Hl7.kept t8
    clear c0 c1 c2 c3 c4 c5 c6 c7 c8
    clear hc7 T7 t8 Hx7 Hy7 Hz7 Hu7 Hl7
    rw [R1]
    have c0 := cell_of (j := 0) Hu8 rfl
    have c1 := cell_of (j := 1) Hu8 rfl
    have c2 := cell_of (j := 2) Hu8 rfl
    have c3 := cell_of (j := 3) Hu8 rfl
    have c4 := cell_of (j := 4) Hu8 rfl
    have c5 := cell_of (j := 5) Hu8 rfl
    have c6 := cell_of (j := 6) Hu8 rfl
    have c7 := cell_of (j := 7) Hu8 rfl
    have c8 := cell_of (j := 8) Hu8 rfl
    go_wp2_with fail
    refine (cmpN i 0 hi17 (by decide) hc8 Hx8 gx (fun _ => rfl) T8.size).mono ?_
    rintro e w9 ⟨rfl, s9, v9, hc9, t9⟩
    have T9 := T8.trans t9
    have Hx9 := Hx8.kept t9
    have Hy9 := Hy8.kept t9
    have Hz9 := Hz8.kept t9
    have Hu9 := Hu8.kept t9
    have Hl9 := Hl8.kept t9
    clear c0 c1 c2 c3 c4 c5 c6 c7 c8
    clear hc8 T8 t9 Hx8 Hy8 Hz8 Hu8 Hl8
    rw [R2]
    have c0 := cell_of (j := 0) Hx9 rfl
    have c1 := cell_of (j := 1) Hx9 rfl
    have c2 := cell_of (j := 2) Hx9 rfl
    have c3 := cell_of (j := 3) Hx9 rfl
    have c4 := cell_of (j := 4) Hx9 rfl
    have c5 := cell_of (j := 5) Hx9 rfl
    have c6 := cell_of (j := 6) Hx9 rfl
    have c7 := cell_of (j := 7) Hx9 rfl
    have c8 := cell_of (j := 8) Hx9 rfl
    go_wp2_with fail
    refine (cmpN 0 i (by decide) hi17 hc9 Hu9 (fun _ => rfl) gx T9.size).mono ?_
    rintro e w10 ⟨rfl, s10, v10, hc10, t10⟩
    have T10 := T9.trans t10
    have Hx10 := Hx9.kept t10
    have Hy10 := Hy9.kept t10
    have Hz10 := Hz9.kept t10
    have Hu10 := Hu9.kept t10
    have Hl10 := Hl9.kept t10
    clear c0 c1 c2 c3 c4 c5 c6 c7 c8
    clear hc9 T9 t10 Hx9 Hy9 Hz9 Hu9 Hl9
    rw [R3]
    have c0 := cell_of (j := 0) Hl10 rfl
    have c1 := cell_of (j := 1) Hl10 rfl
    have c2 := cell_of (j := 2) Hl10 rfl
    have c3 := cell_of (j := 3) Hl10 rfl
    have c4 := cell_of (j := 4) Hl10 rfl
    have c5 := cell_of (j := 5) Hl10 rfl
    have c6 := cell_of (j := 6) Hl10 rfl
    have c7 := cell_of (j := 7) Hl10 rfl
    have c8 := cell_of (j := 8) Hl10 rfl
    go_wp2_with fail
    refine (cmpN i 1 hi17 (by decide) hc10 Hx10 gx (fun _ => rfl) T10.size).mono ?_
    rintro e w11 ⟨rfl, s11, v11, hc11, t11⟩
    have T11 := T10.trans t11
    have Hx11 := Hx10.kept t11
    have Hy11 := Hy10.kept t11
    have Hz11 := Hz10.kept t11
    have Hu11 := Hu10.kept t11
    have Hl11 := Hl10.kept t11
    clear c0 c1 c2 c3 c4 c5 c6 c7 c8
    clear hc10 T10 t11 Hx10 Hy10 Hz10 Hu10 Hl10
    rw [R4]
    have c0 := cell_of (j := 0) Hx11 rfl
    have c1 := cell_of (j := 1) Hx11 rfl
    have c2 := cell_of (j := 2) Hx11 rfl
    have c3 := cell_of (j := 3) Hx11 rfl
    have c4 := cell_of (j := 4) Hx11 rfl
    have c5 := cell_of (j := 5) Hx11 rfl
    have c6 := cell_of (j := 6) Hx11 rfl
    have c7 := cell_of (j := 7) Hx11 rfl
    have c8 := cell_of (j := 8) Hx11 rfl
    go_wp2_with fail
    refine (cmpN 1 i (by decide) hi17 hc11 Hl11 (fun _ => rfl) gx T11.size).mono ?_
    rintro e w12 ⟨rfl, s12, v12, hc12, t12⟩
    have T12 := T11.trans t12
    have Hx12 := Hx11.kept t12
    have Hy12 := Hy11.kept t12
    have Hz12 := Hz11.kept t12
    have Hu12 := Hu11.kept t12
    have Hl12 := Hl11.kept t12
    clear c0 c1 c2 c3 c4 c5 c6 c7 c8
    clear hc11 T11 t12 Hx11 Hy11 Hz11 Hu11 Hl11
    rw [R5]
    go_wp2
    go_ret
    exact ⟨rfl, T12.below⟩
end Go.Proofs.YtmpppalkbgfpcaaRefl.nat
