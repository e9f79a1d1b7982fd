/-
Row 11: the law's walk, all cases. No condition.
-/
import Derived.Test.YtiddjmnknndcaaaReflFmtLaw11A
import Derived.Test.YtiddjmnknndcaaaReflFmtLaw11B
import Derived.Test.YtiddjmnknndcaaaReflFmtLaw11C
import Derived.Test.YtiddjmnknndcaaaReflFmtLaw11D
import Derived.Test.YtiddjmnknndcaaaReflFmtLaw11F
namespace Go.Proofs.YtiddjmnknndcaaaReflFmt.opt
open Go Go.Proofs Go.RowKit
set_option maxRecDepth 100000
set_option maxHeartbeats 40000000
theorem law11_long (k i j t1 t2 : Int) (x1 x2 : ByteArray) (h : ¬ (x1.size ≤ 4096 ∧ x2.size ≤ 4096)) (w : World) : Calls Tryr.prog 3 #[.int .i64 k, .int .i64 i, .int .i64 j, .string x1, .string x2, .int .i64 t1, .int .i64 t2] w fun e w' => e = .returned (.bool true) ∧ Below w.heap.size w w' := by
  by_cases h1 : (4096 : Int) < x1.size
  · skip
    go_enter Tryr.func3, Tryr.ntmps3
    go_wp2_with fail
    refine (bytes11 _ _ _ _ _ x1 x2 _).mono ?_
    rintro e w0 ⟨rfl, rfl⟩
    generalize inBounds x1.size x2.size = v
    cases v
    case false => (go_wp2; go_ret; exact ⟨rfl, Below.refl _ _⟩)
    go_wp2
    go_ret
    exact ⟨rfl, Below.refl _ _⟩
  · have h2 : (4096 : Int) < x2.size := by omega
    go_enter Tryr.func3, Tryr.ntmps3
    go_wp2_with fail
    refine (bytes11 _ _ _ _ _ x1 x2 _).mono ?_
    rintro e w0 ⟨rfl, rfl⟩
    generalize inBounds x1.size x2.size = v
    cases v
    case false => (go_wp2; go_ret; exact ⟨rfl, Below.refl _ _⟩)
    go_wp2
    go_ret
    exact ⟨rfl, Below.refl _ _⟩
theorem law11_g0 (k i j t1 t2 : Int) (x1 x2 : ByteArray) (hx1 : x1.size ≤ 4096) (hx2 : x2.size ≤ 4096)  (h0 : k < 0) (w : World) : Calls Tryr.prog 3 #[.int .i64 k, .int .i64 i, .int .i64 j, .string x1, .string x2, .int .i64 t1, .int .i64 t2] w fun e w' => e = .returned (.bool true) ∧ Below w.heap.size w w' := by
  have hs1 : ¬ ((4096 : Int) < x1.size) := by omega
  have hs2 : ¬ ((4096 : Int) < x2.size) := by omega
  go_enter Tryr.func3, Tryr.ntmps3
  go_wp2_with fail
  refine (bytes11 _ _ _ _ _ x1 x2 _).mono ?_
  rintro e w0 ⟨rfl, rfl⟩
  rw [inBounds_of hx1 hx2]
  go_wp2
  go_ret
  exact ⟨rfl, Below.refl _ _⟩
theorem law11_g1 (k i j t1 t2 : Int) (x1 x2 : ByteArray) (hx1 : x1.size ≤ 4096) (hx2 : x2.size ≤ 4096) (h0 : ¬ (k < 0)) (h1 : 5 < k) (w : World) : Calls Tryr.prog 3 #[.int .i64 k, .int .i64 i, .int .i64 j, .string x1, .string x2, .int .i64 t1, .int .i64 t2] w fun e w' => e = .returned (.bool true) ∧ Below w.heap.size w w' := by
  have hs1 : ¬ ((4096 : Int) < x1.size) := by omega
  have hs2 : ¬ ((4096 : Int) < x2.size) := by omega
  go_enter Tryr.func3, Tryr.ntmps3
  go_wp2_with fail
  refine (bytes11 _ _ _ _ _ x1 x2 _).mono ?_
  rintro e w0 ⟨rfl, rfl⟩
  rw [inBounds_of hx1 hx2]
  go_wp2
  go_ret
  exact ⟨rfl, Below.refl _ _⟩
theorem law11_g2 (k i j t1 t2 : Int) (x1 x2 : ByteArray) (hx1 : x1.size ≤ 4096) (hx2 : x2.size ≤ 4096) (h0 : ¬ (k < 0)) (h1 : ¬ (5 < k)) (h2 : i < 0) (w : World) : Calls Tryr.prog 3 #[.int .i64 k, .int .i64 i, .int .i64 j, .string x1, .string x2, .int .i64 t1, .int .i64 t2] w fun e w' => e = .returned (.bool true) ∧ Below w.heap.size w w' := by
  have hs1 : ¬ ((4096 : Int) < x1.size) := by omega
  have hs2 : ¬ ((4096 : Int) < x2.size) := by omega
  go_enter Tryr.func3, Tryr.ntmps3
  go_wp2_with fail
  refine (bytes11 _ _ _ _ _ x1 x2 _).mono ?_
  rintro e w0 ⟨rfl, rfl⟩
  rw [inBounds_of hx1 hx2]
  go_wp2
  go_ret
  exact ⟨rfl, Below.refl _ _⟩
theorem law11_g3 (k i j t1 t2 : Int) (x1 x2 : ByteArray) (hx1 : x1.size ≤ 4096) (hx2 : x2.size ≤ 4096) (h0 : ¬ (k < 0)) (h1 : ¬ (5 < k)) (h2 : ¬ (i < 0)) (h3 : 4 < i) (w : World) : Calls Tryr.prog 3 #[.int .i64 k, .int .i64 i, .int .i64 j, .string x1, .string x2, .int .i64 t1, .int .i64 t2] w fun e w' => e = .returned (.bool true) ∧ Below w.heap.size w w' := by
  have hs1 : ¬ ((4096 : Int) < x1.size) := by omega
  have hs2 : ¬ ((4096 : Int) < x2.size) := by omega
  go_enter Tryr.func3, Tryr.ntmps3
  go_wp2_with fail
  refine (bytes11 _ _ _ _ _ x1 x2 _).mono ?_
  rintro e w0 ⟨rfl, rfl⟩
  rw [inBounds_of hx1 hx2]
  go_wp2
  go_ret
  exact ⟨rfl, Below.refl _ _⟩
theorem law11_g4 (k i j t1 t2 : Int) (x1 x2 : ByteArray) (hx1 : x1.size ≤ 4096) (hx2 : x2.size ≤ 4096) (h0 : ¬ (k < 0)) (h1 : ¬ (5 < k)) (h2 : ¬ (i < 0)) (h3 : ¬ (4 < i)) (h4 : j < 0) (w : World) : Calls Tryr.prog 3 #[.int .i64 k, .int .i64 i, .int .i64 j, .string x1, .string x2, .int .i64 t1, .int .i64 t2] w fun e w' => e = .returned (.bool true) ∧ Below w.heap.size w w' := by
  have hs1 : ¬ ((4096 : Int) < x1.size) := by omega
  have hs2 : ¬ ((4096 : Int) < x2.size) := by omega
  go_enter Tryr.func3, Tryr.ntmps3
  go_wp2_with fail
  refine (bytes11 _ _ _ _ _ x1 x2 _).mono ?_
  rintro e w0 ⟨rfl, rfl⟩
  rw [inBounds_of hx1 hx2]
  go_wp2
  go_ret
  exact ⟨rfl, Below.refl _ _⟩
theorem law11_g5 (k i j t1 t2 : Int) (x1 x2 : ByteArray) (hx1 : x1.size ≤ 4096) (hx2 : x2.size ≤ 4096) (h0 : ¬ (k < 0)) (h1 : ¬ (5 < k)) (h2 : ¬ (i < 0)) (h3 : ¬ (4 < i)) (h4 : ¬ (j < 0)) (h5 : 4 < j) (w : World) : Calls Tryr.prog 3 #[.int .i64 k, .int .i64 i, .int .i64 j, .string x1, .string x2, .int .i64 t1, .int .i64 t2] w fun e w' => e = .returned (.bool true) ∧ Below w.heap.size w w' := by
  have hs1 : ¬ ((4096 : Int) < x1.size) := by omega
  have hs2 : ¬ ((4096 : Int) < x2.size) := by omega
  go_enter Tryr.func3, Tryr.ntmps3
  go_wp2_with fail
  refine (bytes11 _ _ _ _ _ x1 x2 _).mono ?_
  rintro e w0 ⟨rfl, rfl⟩
  rw [inBounds_of hx1 hx2]
  go_wp2
  go_ret
  exact ⟨rfl, Below.refl _ _⟩
theorem law11_g6 (k i j t1 t2 : Int) (x1 x2 : ByteArray) (hx1 : x1.size ≤ 4096) (hx2 : x2.size ≤ 4096) (h0 : ¬ (k < 0)) (h1 : ¬ (5 < k)) (h2 : ¬ (i < 0)) (h3 : ¬ (4 < i)) (h4 : ¬ (j < 0)) (h5 : ¬ (4 < j)) (h6 : t1 < 0) (w : World) : Calls Tryr.prog 3 #[.int .i64 k, .int .i64 i, .int .i64 j, .string x1, .string x2, .int .i64 t1, .int .i64 t2] w fun e w' => e = .returned (.bool true) ∧ Below w.heap.size w w' := by
  have hs1 : ¬ ((4096 : Int) < x1.size) := by omega
  have hs2 : ¬ ((4096 : Int) < x2.size) := by omega
  go_enter Tryr.func3, Tryr.ntmps3
  go_wp2_with fail
  refine (bytes11 _ _ _ _ _ x1 x2 _).mono ?_
  rintro e w0 ⟨rfl, rfl⟩
  rw [inBounds_of hx1 hx2]
  go_wp2
  go_ret
  exact ⟨rfl, Below.refl _ _⟩
theorem law11_g7 (k i j t1 t2 : Int) (x1 x2 : ByteArray) (hx1 : x1.size ≤ 4096) (hx2 : x2.size ≤ 4096) (h0 : ¬ (k < 0)) (h1 : ¬ (5 < k)) (h2 : ¬ (i < 0)) (h3 : ¬ (4 < i)) (h4 : ¬ (j < 0)) (h5 : ¬ (4 < j)) (h6 : ¬ (t1 < 0)) (h7 : 4 < t1) (w : World) : Calls Tryr.prog 3 #[.int .i64 k, .int .i64 i, .int .i64 j, .string x1, .string x2, .int .i64 t1, .int .i64 t2] w fun e w' => e = .returned (.bool true) ∧ Below w.heap.size w w' := by
  have hs1 : ¬ ((4096 : Int) < x1.size) := by omega
  have hs2 : ¬ ((4096 : Int) < x2.size) := by omega
  go_enter Tryr.func3, Tryr.ntmps3
  go_wp2_with fail
  refine (bytes11 _ _ _ _ _ x1 x2 _).mono ?_
  rintro e w0 ⟨rfl, rfl⟩
  rw [inBounds_of hx1 hx2]
  go_wp2
  go_ret
  exact ⟨rfl, Below.refl _ _⟩
theorem law11_g8 (k i j t1 t2 : Int) (x1 x2 : ByteArray) (hx1 : x1.size ≤ 4096) (hx2 : x2.size ≤ 4096) (h0 : ¬ (k < 0)) (h1 : ¬ (5 < k)) (h2 : ¬ (i < 0)) (h3 : ¬ (4 < i)) (h4 : ¬ (j < 0)) (h5 : ¬ (4 < j)) (h6 : ¬ (t1 < 0)) (h7 : ¬ (4 < t1)) (h8 : t2 < 0) (w : World) : Calls Tryr.prog 3 #[.int .i64 k, .int .i64 i, .int .i64 j, .string x1, .string x2, .int .i64 t1, .int .i64 t2] w fun e w' => e = .returned (.bool true) ∧ Below w.heap.size w w' := by
  have hs1 : ¬ ((4096 : Int) < x1.size) := by omega
  have hs2 : ¬ ((4096 : Int) < x2.size) := by omega
  go_enter Tryr.func3, Tryr.ntmps3
  go_wp2_with fail
  refine (bytes11 _ _ _ _ _ x1 x2 _).mono ?_
  rintro e w0 ⟨rfl, rfl⟩
  rw [inBounds_of hx1 hx2]
  go_wp2
  go_ret
  exact ⟨rfl, Below.refl _ _⟩
theorem law11_g9 (k i j t1 t2 : Int) (x1 x2 : ByteArray) (hx1 : x1.size ≤ 4096) (hx2 : x2.size ≤ 4096) (h0 : ¬ (k < 0)) (h1 : ¬ (5 < k)) (h2 : ¬ (i < 0)) (h3 : ¬ (4 < i)) (h4 : ¬ (j < 0)) (h5 : ¬ (4 < j)) (h6 : ¬ (t1 < 0)) (h7 : ¬ (4 < t1)) (h8 : ¬ (t2 < 0)) (h9 : 4 < t2) (w : World) : Calls Tryr.prog 3 #[.int .i64 k, .int .i64 i, .int .i64 j, .string x1, .string x2, .int .i64 t1, .int .i64 t2] w fun e w' => e = .returned (.bool true) ∧ Below w.heap.size w w' := by
  have hs1 : ¬ ((4096 : Int) < x1.size) := by omega
  have hs2 : ¬ ((4096 : Int) < x2.size) := by omega
  go_enter Tryr.func3, Tryr.ntmps3
  go_wp2_with fail
  refine (bytes11 _ _ _ _ _ x1 x2 _).mono ?_
  rintro e w0 ⟨rfl, rfl⟩
  rw [inBounds_of hx1 hx2]
  go_wp2
  go_ret
  exact ⟨rfl, Below.refl _ _⟩
theorem law11 (k i j : Int) (x1 x2 : ByteArray) (t1 t2 : Int) (w : World) : Calls Tryr.prog 3 #[.int .i64 k, .int .i64 i, .int .i64 j, .string x1, .string x2, .int .i64 t1, .int .i64 t2] w fun e w' => e = .returned (.bool true) ∧ Below w.heap.size w w' := by
  by_cases hx : x1.size ≤ 4096 ∧ x2.size ≤ 4096
  · obtain ⟨hx1, hx2⟩ := hx
    by_cases h0 : k < 0
    · exact law11_g0 k i j t1 t2 x1 x2 hx1 hx2 h0 w
    by_cases h1 : 5 < k
    · exact law11_g1 k i j t1 t2 x1 x2 hx1 hx2 h0 h1 w
    by_cases h2 : i < 0
    · exact law11_g2 k i j t1 t2 x1 x2 hx1 hx2 h0 h1 h2 w
    by_cases h3 : 4 < i
    · exact law11_g3 k i j t1 t2 x1 x2 hx1 hx2 h0 h1 h2 h3 w
    by_cases h4 : j < 0
    · exact law11_g4 k i j t1 t2 x1 x2 hx1 hx2 h0 h1 h2 h3 h4 w
    by_cases h5 : 4 < j
    · exact law11_g5 k i j t1 t2 x1 x2 hx1 hx2 h0 h1 h2 h3 h4 h5 w
    by_cases h6 : t1 < 0
    · exact law11_g6 k i j t1 t2 x1 x2 hx1 hx2 h0 h1 h2 h3 h4 h5 h6 w
    by_cases h7 : 4 < t1
    · exact law11_g7 k i j t1 t2 x1 x2 hx1 hx2 h0 h1 h2 h3 h4 h5 h6 h7 w
    by_cases h8 : t2 < 0
    · exact law11_g8 k i j t1 t2 x1 x2 hx1 hx2 h0 h1 h2 h3 h4 h5 h6 h7 h8 w
    by_cases h9 : 4 < t2
    · exact law11_g9 k i j t1 t2 x1 x2 hx1 hx2 h0 h1 h2 h3 h4 h5 h6 h7 h8 h9 w
    obtain ⟨k, rfl⟩ := Int.eq_ofNat_of_zero_le (show 0 ≤ k by omega)
    obtain ⟨i, rfl⟩ := Int.eq_ofNat_of_zero_le (show 0 ≤ i by omega)
    obtain ⟨j, rfl⟩ := Int.eq_ofNat_of_zero_le (show 0 ≤ j by omega)
    obtain ⟨t1, rfl⟩ := Int.eq_ofNat_of_zero_le (show 0 ≤ t1 by omega)
    obtain ⟨t2, rfl⟩ := Int.eq_ofNat_of_zero_le (show 0 ≤ t2 by omega)
    match hm : cmbK i k with
    | none => exact law11A i j k t1 t2 x1 x2 (by omega) (by omega) (by omega) (by omega) (by omega) hx1 hx2 hm w
    | some m =>
      by_cases hij : i = j
      · by_cases hxx : x1 = x2
        · by_cases ht : t1 = t2
          · exact law11F i j k t1 t2 x1 x2 (by omega) (by omega) (by omega) (by omega) (by omega) hx1 hx2 m hm hij hxx ht w
          · exact law11D i j k t1 t2 x1 x2 (by omega) (by omega) (by omega) (by omega) (by omega) hx1 hx2 m hm hij hxx ht w
        · exact law11C i j k t1 t2 x1 x2 (by omega) (by omega) (by omega) (by omega) (by omega) hx1 hx2 m hm hij hxx w
      · exact law11B i j k t1 t2 x1 x2 (by omega) (by omega) (by omega) (by omega) (by omega) hx1 hx2 m hm hij w
  · exact law11_long k i j t1 t2 x1 x2 hx w
end Go.Proofs.YtiddjmnknndcaaaReflFmt.opt
