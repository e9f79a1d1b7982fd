/-
The law's walk: FnComparableToClassTable returns true at every two bytes. No condition.
-/
import Derived.Test.YtmpppalkbgfpcaaReflCmpE
namespace Go.Proofs.YtmpppalkbgfpcaaRefl.nat
open Go Go.Proofs Go.RowKit
set_option maxRecDepth 100000
set_option maxHeartbeats 4000000
theorem rem17 (a : Int) (h : 0 ≤ a) : ∃ i : Nat, Int.tmod a 17 = i ∧ i < 17 := by
  refine ⟨(a % 17).toNat, ?_, by omega⟩
  rw [Int.tmod_eq_emod_of_nonneg h]
  omega
theorem Turned.grow {B : Nat} {a w w' : World} (h : Turned B a w) (hB : B ≤ a.heap.size) (k : Below w.heap.size w w') : Turned B a w' :=
  ⟨h.below.trans (k.mono (Nat.le_trans hB h.below.size)), fun b o hb hf => (k.block b (lt_of (h.keep b o hb hf))).trans (h.keep b o hb hf)⟩
theorem law3 (a b : Int) (ha : 0 ≤ a ∧ a ≤ 255) (hb : 0 ≤ b ∧ b ≤ 255) (w : World) : Calls Tryr.prog 3 #[.int .u8 a, .int .u8 b] w fun e w' => e = .returned (.bool true) ∧ Below w.heap.size w w' := by
  obtain ⟨i, hi, hi17⟩ := rem17 a ha.1
  obtain ⟨j, hj, hj17⟩ := rem17 b hb.1
  have sT := storeT
  go_enter Tryr.func3, Tryr.ntmps3
  go_wp2_with fail
  have hc0 : CacheAt w.heap.size (w.alloc (.cells #[.map none, .map none] 40)) w.heap.size .no (.pointer none) := ⟨Nat.le_refl _, .inl ⟨rfl, h_new _ _⟩, fun h => by cases h⟩
  have T0 := (Turned.refl w.heap.size w).alloc (Nat.le_refl _) (.cells #[.map none, .map none] 40)
  refine (codeN i hi17 _).mono ?_
  rintro e w1 ⟨px, gx, rfl, hb1⟩
  have hc1 := (hc0.grow hb1).alloc (.cells #[tyV (nt i).ty, .int .u64 (nt i).k, (.pointer px), .pointer none, .bool (nt i).nl, .bool false, .bool false, .bool (nt i).i, .bool (nt i).f] 47)
  have T1 := (T0.grow (Nat.le_refl _) hb1).alloc (T0.grow (Nat.le_refl _) hb1).size (.cells #[tyV (nt i).ty, .int .u64 (nt i).k, (.pointer px), .pointer none, .bool (nt i).nl, .bool false, .bool false, .bool (nt i).i, .bool (nt i).f] 47)
  have Hx1 : Has (w1.alloc (.cells #[tyV (nt i).ty, .int .u64 (nt i).k, (.pointer px), .pointer none, .bool (nt i).nl, .bool false, .bool false, .bool (nt i).i, .bool (nt i).f] 47)) w1.heap.size (nt i) (.pointer px) := h_new _ _
  clear hb1 hc0 T0 
  go_wp2_with fail
  refine (codeN j hj17 _).mono ?_
  rintro e w2 ⟨py, gy, rfl, hb2⟩
  have hc2 := (hc1.grow hb2).alloc (.cells #[tyV (nt j).ty, .int .u64 (nt j).k, (.pointer py), .pointer none, .bool (nt j).nl, .bool false, .bool false, .bool (nt j).i, .bool (nt j).f] 47)
  have T2 := (T1.grow (Nat.le_refl _) hb2).alloc (T1.grow (Nat.le_refl _) hb2).size (.cells #[tyV (nt j).ty, .int .u64 (nt j).k, (.pointer py), .pointer none, .bool (nt j).nl, .bool false, .bool false, .bool (nt j).i, .bool (nt j).f] 47)
  have Hx2 := (Hx1.grow hb2).alloc (.cells #[tyV (nt j).ty, .int .u64 (nt j).k, (.pointer py), .pointer none, .bool (nt j).nl, .bool false, .bool false, .bool (nt j).i, .bool (nt j).f] 47)
  have Hy2 : Has (w2.alloc (.cells #[tyV (nt j).ty, .int .u64 (nt j).k, (.pointer py), .pointer none, .bool (nt j).nl, .bool false, .bool false, .bool (nt j).i, .bool (nt j).f] 47)) w2.heap.size (nt j) (.pointer py) := h_new _ _
  clear hb2 hc1 T1 Hx1
  go_wp2_with fail
  refine (cmpN i j hi17 hj17 hc2 Hx2 gx gy T2.size).mono ?_
  rintro e w3 ⟨rfl, s3, v3, hc3, t3⟩
  have T3 := T2.trans t3
  rw [table ⟨i, hi17⟩ ⟨j, hj17⟩]
  simp only
  clear hc2 Hx2 Hy2 t3 T2 hc3 sT
  go_wp2_with fail
  refine (wild i hi17 _).mono ?_
  rintro e w4 ⟨rfl, rfl⟩
  cases hwi : wildB i
  · go_wp2_with fail
    refine (wild j hj17 _).mono ?_
    rintro e w5 ⟨rfl, rfl⟩
    cases hwj : wildB j
    · go_wp2_with fail
      refine (cls i hi17 _).mono ?_
      rintro e w6 ⟨rfl, rfl⟩
      go_wp2_with fail
      refine (cls j hj17 _).mono ?_
      rintro e w7 ⟨rfl, rfl⟩
      cases hcl : (clsZ i == clsZ j)
      · go_wp2
        go_ret
        exact ⟨rfl, T3.below⟩
      · go_wp2
        go_ret
        exact ⟨rfl, T3.below⟩
    · go_wp2
      go_ret
      exact ⟨rfl, T3.below⟩
  · go_wp2
    go_ret
    exact ⟨rfl, T3.below⟩
end Go.Proofs.YtmpppalkbgfpcaaRefl.nat
