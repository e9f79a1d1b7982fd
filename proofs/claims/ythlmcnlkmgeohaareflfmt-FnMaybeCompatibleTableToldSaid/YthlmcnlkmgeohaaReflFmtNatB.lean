/-
The walks that make the natures of the seventeen types over this cut. No condition.
-/
import Derived.Test.YthlmcnlkmgeohaaReflFmtNatA
namespace Go.Proofs.YthlmcnlkmgeohaaReflFmt.nat
open Go Go.Proofs Go.RowKit
set_option maxRecDepth 100000
set_option maxHeartbeats 1000000
theorem mkMap (t : Nat) (w : World) : (Instr.makeMap t none).run Tryr.prog w = .ok (.map (some w.heap.size)) (w.alloc (.map #[] 0)) := rfl
theorem pkgFrom (t k : Nat) (i f : Bool) (h : ∀ w, Calls Tryr.prog 42 #[.pointer none, (.iface 76 (.pointer (some ⟨0, t, none⟩)))] w fun e w' => e = .returned (.agg #[(.iface 76 (.pointer (some ⟨0, t, none⟩))), .int .u64 k, .pointer none, .pointer none, .bool false, .bool false, .bool false, .bool i, .bool f]) ∧ w' = w.alloc (.cells #[(.iface 76 (.pointer (some ⟨0, t, none⟩))), .int .u64 k, .pointer none, .pointer none, .bool false, .bool false, .bool false, .bool i, .bool f] 51)) (w : World) :
    Calls Tryr.prog 30 #[(.iface 76 (.pointer (some ⟨0, t, none⟩)))] w fun e w' => e = .returned (.agg #[(.iface 76 (.pointer (some ⟨0, t, none⟩))), .int .u64 k, .pointer none, .pointer none, .bool false, .bool false, .bool false, .bool i, .bool f]) ∧ w' = (w.alloc (.cells #[(.iface 76 (.pointer (some ⟨0, t, none⟩))), .int .u64 k, .pointer none, .pointer none, .bool false, .bool false, .bool false, .bool i, .bool f] 51)).alloc (.cells #[(.iface 76 (.pointer (some ⟨0, t, none⟩))), .int .u64 k, .pointer none, .pointer none, .bool false, .bool false, .bool false, .bool i, .bool f] 51) := by
  go_enter Tryr.func30, Tryr.ntmps30
  go_wp2_with fail
  refine (h _).mono ?_
  rintro e w1 ⟨rfl, rfl⟩
  go_wp2
  go_returns
  exact ⟨rfl, rfl⟩
theorem builtin_int (w : World) : Calls Tryr.prog 51 #[(.iface 76 (.pointer (some ⟨0, 3, none⟩)))] w fun e w' => e = .returned (.bool true) ∧ w' = w := by
  have g1 := typeOf
  have g2 := eql
  go_enter Tryr.func51, Tryr.ntmps51
  go_wp2
  go_ret
  exact ⟨rfl, rfl⟩
theorem fromType_int (cv : Value) (w : World) : Calls Tryr.prog 42 #[cv, (.iface 76 (.pointer (some ⟨0, 3, none⟩)))] w fun e w' => e = .returned (.agg #[(.iface 76 (.pointer (some ⟨0, 3, none⟩))), .int .u64 2, .pointer none, .pointer none, .bool false, .bool false, .bool false, .bool true, .bool false]) ∧ w' = (w.alloc (.cells #[(.iface 76 (.pointer (some ⟨0, 3, none⟩))), .int .u64 2, .pointer none, .pointer none, .bool false, .bool false, .bool false, .bool true, .bool false] 51)) := by
  have g := kind_int
  go_enter Tryr.func42, Tryr.ntmps42
  go_wp2_with fail
  refine (builtin_int _).mono ?_
  rintro e w1 ⟨rfl, rfl⟩
  go_wp2
  go_returns
  exact ⟨rfl, rfl⟩
theorem pkgFrom_int (w : World) : Calls Tryr.prog 30 #[(.iface 76 (.pointer (some ⟨0, 3, none⟩)))] w fun e w' => e = .returned (.agg #[(.iface 76 (.pointer (some ⟨0, 3, none⟩))), .int .u64 2, .pointer none, .pointer none, .bool false, .bool false, .bool false, .bool true, .bool false]) ∧ w' = ((w.alloc (.cells #[(.iface 76 (.pointer (some ⟨0, 3, none⟩))), .int .u64 2, .pointer none, .pointer none, .bool false, .bool false, .bool false, .bool true, .bool false] 51)).alloc (.cells #[(.iface 76 (.pointer (some ⟨0, 3, none⟩))), .int .u64 2, .pointer none, .pointer none, .bool false, .bool false, .bool false, .bool true, .bool false] 51)) := pkgFrom 3 2 true false (fun w => fromType_int _ w) w
theorem zz_int (w : World) : Calls Tryr.prog 13 #[] w fun e w' => e = .returned (.agg #[(.iface 76 (.pointer (some ⟨0, 3, none⟩))), .int .u64 2, .pointer none, .pointer none, .bool false, .bool false, .bool false, .bool true, .bool false]) ∧ w' = (((w.alloc (.cells #[(.iface 76 (.pointer (some ⟨0, 3, none⟩))), .int .u64 2, .pointer none, .pointer none, .bool false, .bool false, .bool false, .bool true, .bool false] 51)).alloc (.cells #[(.iface 76 (.pointer (some ⟨0, 3, none⟩))), .int .u64 2, .pointer none, .pointer none, .bool false, .bool false, .bool false, .bool true, .bool false] 51)).alloc (.cells #[(.iface 76 (.pointer (some ⟨0, 3, none⟩))), .int .u64 2, .pointer none, .pointer none, .bool false, .bool false, .bool false, .bool true, .bool false] 51)) := by
  have g := typeOf
  go_enter Tryr.func13, Tryr.ntmps13
  go_wp2_with fail
  refine (pkgFrom_int _).mono ?_
  rintro e w1 ⟨rfl, rfl⟩
  go_wp2
  go_returns
  exact ⟨rfl, rfl⟩
theorem code_int (w : World) : Calls Tryr.prog 7 #[.int .i64 2] w fun e w' => e = .returned (.agg #[(.iface 76 (.pointer (some ⟨0, 3, none⟩))), .int .u64 2, .pointer none, .pointer none, .bool false, .bool false, .bool false, .bool true, .bool false]) ∧ Below w.heap.size w w' := by
  go_enter Tryr.func7, Tryr.ntmps7
  go_wp2_with fail
  refine (zz_int _).mono ?_
  rintro e w1 ⟨rfl, rfl⟩
  go_wp2
  go_returns
  exact ⟨rfl, by go_grown⟩
theorem builtin_int64 (w : World) : Calls Tryr.prog 51 #[(.iface 76 (.pointer (some ⟨0, 2, none⟩)))] w fun e w' => e = .returned (.bool true) ∧ w' = w := by
  have g1 := typeOf
  have g2 := eql
  go_enter Tryr.func51, Tryr.ntmps51
  go_wp2
  go_ret
  exact ⟨rfl, rfl⟩
theorem fromType_int64 (cv : Value) (w : World) : Calls Tryr.prog 42 #[cv, (.iface 76 (.pointer (some ⟨0, 2, none⟩)))] w fun e w' => e = .returned (.agg #[(.iface 76 (.pointer (some ⟨0, 2, none⟩))), .int .u64 6, .pointer none, .pointer none, .bool false, .bool false, .bool false, .bool true, .bool false]) ∧ w' = (w.alloc (.cells #[(.iface 76 (.pointer (some ⟨0, 2, none⟩))), .int .u64 6, .pointer none, .pointer none, .bool false, .bool false, .bool false, .bool true, .bool false] 51)) := by
  have g := kind_int64
  go_enter Tryr.func42, Tryr.ntmps42
  go_wp2_with fail
  refine (builtin_int64 _).mono ?_
  rintro e w1 ⟨rfl, rfl⟩
  go_wp2
  go_returns
  exact ⟨rfl, rfl⟩
theorem pkgFrom_int64 (w : World) : Calls Tryr.prog 30 #[(.iface 76 (.pointer (some ⟨0, 2, none⟩)))] w fun e w' => e = .returned (.agg #[(.iface 76 (.pointer (some ⟨0, 2, none⟩))), .int .u64 6, .pointer none, .pointer none, .bool false, .bool false, .bool false, .bool true, .bool false]) ∧ w' = ((w.alloc (.cells #[(.iface 76 (.pointer (some ⟨0, 2, none⟩))), .int .u64 6, .pointer none, .pointer none, .bool false, .bool false, .bool false, .bool true, .bool false] 51)).alloc (.cells #[(.iface 76 (.pointer (some ⟨0, 2, none⟩))), .int .u64 6, .pointer none, .pointer none, .bool false, .bool false, .bool false, .bool true, .bool false] 51)) := pkgFrom 2 6 true false (fun w => fromType_int64 _ w) w
theorem zz_int64 (w : World) : Calls Tryr.prog 14 #[] w fun e w' => e = .returned (.agg #[(.iface 76 (.pointer (some ⟨0, 2, none⟩))), .int .u64 6, .pointer none, .pointer none, .bool false, .bool false, .bool false, .bool true, .bool false]) ∧ w' = (((w.alloc (.cells #[(.iface 76 (.pointer (some ⟨0, 2, none⟩))), .int .u64 6, .pointer none, .pointer none, .bool false, .bool false, .bool false, .bool true, .bool false] 51)).alloc (.cells #[(.iface 76 (.pointer (some ⟨0, 2, none⟩))), .int .u64 6, .pointer none, .pointer none, .bool false, .bool false, .bool false, .bool true, .bool false] 51)).alloc (.cells #[(.iface 76 (.pointer (some ⟨0, 2, none⟩))), .int .u64 6, .pointer none, .pointer none, .bool false, .bool false, .bool false, .bool true, .bool false] 51)) := by
  have g := typeOf
  go_enter Tryr.func14, Tryr.ntmps14
  go_wp2_with fail
  refine (pkgFrom_int64 _).mono ?_
  rintro e w1 ⟨rfl, rfl⟩
  go_wp2
  go_returns
  exact ⟨rfl, rfl⟩
theorem code_int64 (w : World) : Calls Tryr.prog 7 #[.int .i64 3] w fun e w' => e = .returned (.agg #[(.iface 76 (.pointer (some ⟨0, 2, none⟩))), .int .u64 6, .pointer none, .pointer none, .bool false, .bool false, .bool false, .bool true, .bool false]) ∧ Below w.heap.size w w' := by
  go_enter Tryr.func7, Tryr.ntmps7
  go_wp2_with fail
  refine (zz_int64 _).mono ?_
  rintro e w1 ⟨rfl, rfl⟩
  go_wp2
  go_returns
  exact ⟨rfl, by go_grown⟩
theorem builtin_uint8 (w : World) : Calls Tryr.prog 51 #[(.iface 76 (.pointer (some ⟨0, 5, none⟩)))] w fun e w' => e = .returned (.bool true) ∧ w' = w := by
  have g1 := typeOf
  have g2 := eql
  go_enter Tryr.func51, Tryr.ntmps51
  go_wp2
  go_ret
  exact ⟨rfl, rfl⟩
theorem fromType_uint8 (cv : Value) (w : World) : Calls Tryr.prog 42 #[cv, (.iface 76 (.pointer (some ⟨0, 5, none⟩)))] w fun e w' => e = .returned (.agg #[(.iface 76 (.pointer (some ⟨0, 5, none⟩))), .int .u64 8, .pointer none, .pointer none, .bool false, .bool false, .bool false, .bool true, .bool false]) ∧ w' = (w.alloc (.cells #[(.iface 76 (.pointer (some ⟨0, 5, none⟩))), .int .u64 8, .pointer none, .pointer none, .bool false, .bool false, .bool false, .bool true, .bool false] 51)) := by
  have g := kind_uint8
  go_enter Tryr.func42, Tryr.ntmps42
  go_wp2_with fail
  refine (builtin_uint8 _).mono ?_
  rintro e w1 ⟨rfl, rfl⟩
  go_wp2
  go_returns
  exact ⟨rfl, rfl⟩
theorem pkgFrom_uint8 (w : World) : Calls Tryr.prog 30 #[(.iface 76 (.pointer (some ⟨0, 5, none⟩)))] w fun e w' => e = .returned (.agg #[(.iface 76 (.pointer (some ⟨0, 5, none⟩))), .int .u64 8, .pointer none, .pointer none, .bool false, .bool false, .bool false, .bool true, .bool false]) ∧ w' = ((w.alloc (.cells #[(.iface 76 (.pointer (some ⟨0, 5, none⟩))), .int .u64 8, .pointer none, .pointer none, .bool false, .bool false, .bool false, .bool true, .bool false] 51)).alloc (.cells #[(.iface 76 (.pointer (some ⟨0, 5, none⟩))), .int .u64 8, .pointer none, .pointer none, .bool false, .bool false, .bool false, .bool true, .bool false] 51)) := pkgFrom 5 8 true false (fun w => fromType_uint8 _ w) w
theorem zz_uint8 (w : World) : Calls Tryr.prog 15 #[] w fun e w' => e = .returned (.agg #[(.iface 76 (.pointer (some ⟨0, 5, none⟩))), .int .u64 8, .pointer none, .pointer none, .bool false, .bool false, .bool false, .bool true, .bool false]) ∧ w' = (((w.alloc (.cells #[(.iface 76 (.pointer (some ⟨0, 5, none⟩))), .int .u64 8, .pointer none, .pointer none, .bool false, .bool false, .bool false, .bool true, .bool false] 51)).alloc (.cells #[(.iface 76 (.pointer (some ⟨0, 5, none⟩))), .int .u64 8, .pointer none, .pointer none, .bool false, .bool false, .bool false, .bool true, .bool false] 51)).alloc (.cells #[(.iface 76 (.pointer (some ⟨0, 5, none⟩))), .int .u64 8, .pointer none, .pointer none, .bool false, .bool false, .bool false, .bool true, .bool false] 51)) := by
  have g := typeOf
  go_enter Tryr.func15, Tryr.ntmps15
  go_wp2_with fail
  refine (pkgFrom_uint8 _).mono ?_
  rintro e w1 ⟨rfl, rfl⟩
  go_wp2
  go_returns
  exact ⟨rfl, rfl⟩
theorem code_uint8 (w : World) : Calls Tryr.prog 7 #[.int .i64 4] w fun e w' => e = .returned (.agg #[(.iface 76 (.pointer (some ⟨0, 5, none⟩))), .int .u64 8, .pointer none, .pointer none, .bool false, .bool false, .bool false, .bool true, .bool false]) ∧ Below w.heap.size w w' := by
  go_enter Tryr.func7, Tryr.ntmps7
  go_wp2_with fail
  refine (zz_uint8 _).mono ?_
  rintro e w1 ⟨rfl, rfl⟩
  go_wp2
  go_returns
  exact ⟨rfl, by go_grown⟩
theorem builtin_float64 (w : World) : Calls Tryr.prog 52 #[(.iface 76 (.pointer (some ⟨0, 27, none⟩)))] w fun e w' => e = .returned (.bool true) ∧ w' = w := by
  have g1 := typeOf
  have g2 := eql
  go_enter Tryr.func52, Tryr.ntmps52
  go_wp2
  go_ret
  exact ⟨rfl, rfl⟩
theorem fromType_float64 (cv : Value) (w : World) : Calls Tryr.prog 42 #[cv, (.iface 76 (.pointer (some ⟨0, 27, none⟩)))] w fun e w' => e = .returned (.agg #[(.iface 76 (.pointer (some ⟨0, 27, none⟩))), .int .u64 14, .pointer none, .pointer none, .bool false, .bool false, .bool false, .bool false, .bool true]) ∧ w' = (w.alloc (.cells #[(.iface 76 (.pointer (some ⟨0, 27, none⟩))), .int .u64 14, .pointer none, .pointer none, .bool false, .bool false, .bool false, .bool false, .bool true] 51)) := by
  have g := kind_float64
  go_enter Tryr.func42, Tryr.ntmps42
  go_wp2_with fail
  refine (builtin_float64 _).mono ?_
  rintro e w1 ⟨rfl, rfl⟩
  go_wp2
  go_returns
  exact ⟨rfl, rfl⟩
theorem pkgFrom_float64 (w : World) : Calls Tryr.prog 30 #[(.iface 76 (.pointer (some ⟨0, 27, none⟩)))] w fun e w' => e = .returned (.agg #[(.iface 76 (.pointer (some ⟨0, 27, none⟩))), .int .u64 14, .pointer none, .pointer none, .bool false, .bool false, .bool false, .bool false, .bool true]) ∧ w' = ((w.alloc (.cells #[(.iface 76 (.pointer (some ⟨0, 27, none⟩))), .int .u64 14, .pointer none, .pointer none, .bool false, .bool false, .bool false, .bool false, .bool true] 51)).alloc (.cells #[(.iface 76 (.pointer (some ⟨0, 27, none⟩))), .int .u64 14, .pointer none, .pointer none, .bool false, .bool false, .bool false, .bool false, .bool true] 51)) := pkgFrom 27 14 false true (fun w => fromType_float64 _ w) w
theorem zz_float64 (w : World) : Calls Tryr.prog 16 #[] w fun e w' => e = .returned (.agg #[(.iface 76 (.pointer (some ⟨0, 27, none⟩))), .int .u64 14, .pointer none, .pointer none, .bool false, .bool false, .bool false, .bool false, .bool true]) ∧ w' = (((w.alloc (.cells #[(.iface 76 (.pointer (some ⟨0, 27, none⟩))), .int .u64 14, .pointer none, .pointer none, .bool false, .bool false, .bool false, .bool false, .bool true] 51)).alloc (.cells #[(.iface 76 (.pointer (some ⟨0, 27, none⟩))), .int .u64 14, .pointer none, .pointer none, .bool false, .bool false, .bool false, .bool false, .bool true] 51)).alloc (.cells #[(.iface 76 (.pointer (some ⟨0, 27, none⟩))), .int .u64 14, .pointer none, .pointer none, .bool false, .bool false, .bool false, .bool false, .bool true] 51)) := by
  have g := typeOf
  go_enter Tryr.func16, Tryr.ntmps16
  go_wp2_with fail
  refine (pkgFrom_float64 _).mono ?_
  rintro e w1 ⟨rfl, rfl⟩
  go_wp2
  go_returns
  exact ⟨rfl, rfl⟩
theorem code_float64 (w : World) : Calls Tryr.prog 7 #[.int .i64 5] w fun e w' => e = .returned (.agg #[(.iface 76 (.pointer (some ⟨0, 27, none⟩))), .int .u64 14, .pointer none, .pointer none, .bool false, .bool false, .bool false, .bool false, .bool true]) ∧ Below w.heap.size w w' := by
  go_enter Tryr.func7, Tryr.ntmps7
  go_wp2_with fail
  refine (zz_float64 _).mono ?_
  rintro e w1 ⟨rfl, rfl⟩
  go_wp2
  go_returns
  exact ⟨rfl, by go_grown⟩
theorem fromType_string (cv : Value) (w : World) : Calls Tryr.prog 42 #[cv, (.iface 76 (.pointer (some ⟨0, 9, none⟩)))] w fun e w' => e = .returned (.agg #[(.iface 76 (.pointer (some ⟨0, 9, none⟩))), .int .u64 24, .pointer none, .pointer none, .bool false, .bool false, .bool false, .bool false, .bool false]) ∧ w' = (w.alloc (.cells #[(.iface 76 (.pointer (some ⟨0, 9, none⟩))), .int .u64 24, .pointer none, .pointer none, .bool false, .bool false, .bool false, .bool false, .bool false] 51)) := by
  have g := kind_string
  go_enter Tryr.func42, Tryr.ntmps42
  go_wp2
  go_returns
  exact ⟨rfl, rfl⟩
theorem pkgFrom_string (w : World) : Calls Tryr.prog 30 #[(.iface 76 (.pointer (some ⟨0, 9, none⟩)))] w fun e w' => e = .returned (.agg #[(.iface 76 (.pointer (some ⟨0, 9, none⟩))), .int .u64 24, .pointer none, .pointer none, .bool false, .bool false, .bool false, .bool false, .bool false]) ∧ w' = ((w.alloc (.cells #[(.iface 76 (.pointer (some ⟨0, 9, none⟩))), .int .u64 24, .pointer none, .pointer none, .bool false, .bool false, .bool false, .bool false, .bool false] 51)).alloc (.cells #[(.iface 76 (.pointer (some ⟨0, 9, none⟩))), .int .u64 24, .pointer none, .pointer none, .bool false, .bool false, .bool false, .bool false, .bool false] 51)) := pkgFrom 9 24 false false (fun w => fromType_string _ w) w
theorem zz_string (w : World) : Calls Tryr.prog 17 #[] w fun e w' => e = .returned (.agg #[(.iface 76 (.pointer (some ⟨0, 9, none⟩))), .int .u64 24, .pointer none, .pointer none, .bool false, .bool false, .bool false, .bool false, .bool false]) ∧ w' = (((w.alloc (.cells #[(.iface 76 (.pointer (some ⟨0, 9, none⟩))), .int .u64 24, .pointer none, .pointer none, .bool false, .bool false, .bool false, .bool false, .bool false] 51)).alloc (.cells #[(.iface 76 (.pointer (some ⟨0, 9, none⟩))), .int .u64 24, .pointer none, .pointer none, .bool false, .bool false, .bool false, .bool false, .bool false] 51)).alloc (.cells #[(.iface 76 (.pointer (some ⟨0, 9, none⟩))), .int .u64 24, .pointer none, .pointer none, .bool false, .bool false, .bool false, .bool false, .bool false] 51)) := by
  have g := typeOf
  go_enter Tryr.func17, Tryr.ntmps17
  go_wp2_with fail
  refine (pkgFrom_string _).mono ?_
  rintro e w1 ⟨rfl, rfl⟩
  go_wp2
  go_returns
  exact ⟨rfl, rfl⟩
theorem code_string (w : World) : Calls Tryr.prog 7 #[.int .i64 6] w fun e w' => e = .returned (.agg #[(.iface 76 (.pointer (some ⟨0, 9, none⟩))), .int .u64 24, .pointer none, .pointer none, .bool false, .bool false, .bool false, .bool false, .bool false]) ∧ Below w.heap.size w w' := by
  go_enter Tryr.func7, Tryr.ntmps7
  go_wp2_with fail
  refine (zz_string _).mono ?_
  rintro e w1 ⟨rfl, rfl⟩
  go_wp2
  go_returns
  exact ⟨rfl, by go_grown⟩
theorem fromType_bool (cv : Value) (w : World) : Calls Tryr.prog 42 #[cv, (.iface 76 (.pointer (some ⟨0, 4, none⟩)))] w fun e w' => e = .returned (.agg #[(.iface 76 (.pointer (some ⟨0, 4, none⟩))), .int .u64 1, .pointer none, .pointer none, .bool false, .bool false, .bool false, .bool false, .bool false]) ∧ w' = (w.alloc (.cells #[(.iface 76 (.pointer (some ⟨0, 4, none⟩))), .int .u64 1, .pointer none, .pointer none, .bool false, .bool false, .bool false, .bool false, .bool false] 51)) := by
  have g := kind_bool
  go_enter Tryr.func42, Tryr.ntmps42
  go_wp2
  go_returns
  exact ⟨rfl, rfl⟩
theorem pkgFrom_bool (w : World) : Calls Tryr.prog 30 #[(.iface 76 (.pointer (some ⟨0, 4, none⟩)))] w fun e w' => e = .returned (.agg #[(.iface 76 (.pointer (some ⟨0, 4, none⟩))), .int .u64 1, .pointer none, .pointer none, .bool false, .bool false, .bool false, .bool false, .bool false]) ∧ w' = ((w.alloc (.cells #[(.iface 76 (.pointer (some ⟨0, 4, none⟩))), .int .u64 1, .pointer none, .pointer none, .bool false, .bool false, .bool false, .bool false, .bool false] 51)).alloc (.cells #[(.iface 76 (.pointer (some ⟨0, 4, none⟩))), .int .u64 1, .pointer none, .pointer none, .bool false, .bool false, .bool false, .bool false, .bool false] 51)) := pkgFrom 4 1 false false (fun w => fromType_bool _ w) w
theorem zz_bool (w : World) : Calls Tryr.prog 18 #[] w fun e w' => e = .returned (.agg #[(.iface 76 (.pointer (some ⟨0, 4, none⟩))), .int .u64 1, .pointer none, .pointer none, .bool false, .bool false, .bool false, .bool false, .bool false]) ∧ w' = (((w.alloc (.cells #[(.iface 76 (.pointer (some ⟨0, 4, none⟩))), .int .u64 1, .pointer none, .pointer none, .bool false, .bool false, .bool false, .bool false, .bool false] 51)).alloc (.cells #[(.iface 76 (.pointer (some ⟨0, 4, none⟩))), .int .u64 1, .pointer none, .pointer none, .bool false, .bool false, .bool false, .bool false, .bool false] 51)).alloc (.cells #[(.iface 76 (.pointer (some ⟨0, 4, none⟩))), .int .u64 1, .pointer none, .pointer none, .bool false, .bool false, .bool false, .bool false, .bool false] 51)) := by
  have g := typeOf
  go_enter Tryr.func18, Tryr.ntmps18
  go_wp2_with fail
  refine (pkgFrom_bool _).mono ?_
  rintro e w1 ⟨rfl, rfl⟩
  go_wp2
  go_returns
  exact ⟨rfl, rfl⟩
theorem code_bool (w : World) : Calls Tryr.prog 7 #[.int .i64 7] w fun e w' => e = .returned (.agg #[(.iface 76 (.pointer (some ⟨0, 4, none⟩))), .int .u64 1, .pointer none, .pointer none, .bool false, .bool false, .bool false, .bool false, .bool false]) ∧ Below w.heap.size w w' := by
  go_enter Tryr.func7, Tryr.ntmps7
  go_wp2_with fail
  refine (zz_bool _).mono ?_
  rintro e w1 ⟨rfl, rfl⟩
  go_wp2
  go_returns
  exact ⟨rfl, by go_grown⟩
theorem builtin_duration (w : World) : Calls Tryr.prog 51 #[(.iface 76 (.pointer (some ⟨0, 62, none⟩)))] w fun e w' => e = .returned (.bool false) ∧ w' = w := by
  have g1 := typeOf
  have g2 := eql
  go_enter Tryr.func51, Tryr.ntmps51
  go_wp2
  go_ret
  exact ⟨rfl, rfl⟩
theorem fromType_duration (cv : Value) (w : World) : Calls Tryr.prog 42 #[cv, (.iface 76 (.pointer (some ⟨0, 62, none⟩)))] w fun e w' => e = .returned (.agg #[(.iface 76 (.pointer (some ⟨0, 62, none⟩))), .int .u64 6, .pointer none, .pointer none, .bool false, .bool false, .bool false, .bool false, .bool false]) ∧ w' = (w.alloc (.cells #[(.iface 76 (.pointer (some ⟨0, 62, none⟩))), .int .u64 6, .pointer none, .pointer none, .bool false, .bool false, .bool false, .bool false, .bool false] 51)) := by
  have g := kind_duration
  go_enter Tryr.func42, Tryr.ntmps42
  go_wp2_with fail
  refine (builtin_duration _).mono ?_
  rintro e w1 ⟨rfl, rfl⟩
  go_wp2
  go_returns
  exact ⟨rfl, rfl⟩
theorem pkgFrom_duration (w : World) : Calls Tryr.prog 30 #[(.iface 76 (.pointer (some ⟨0, 62, none⟩)))] w fun e w' => e = .returned (.agg #[(.iface 76 (.pointer (some ⟨0, 62, none⟩))), .int .u64 6, .pointer none, .pointer none, .bool false, .bool false, .bool false, .bool false, .bool false]) ∧ w' = ((w.alloc (.cells #[(.iface 76 (.pointer (some ⟨0, 62, none⟩))), .int .u64 6, .pointer none, .pointer none, .bool false, .bool false, .bool false, .bool false, .bool false] 51)).alloc (.cells #[(.iface 76 (.pointer (some ⟨0, 62, none⟩))), .int .u64 6, .pointer none, .pointer none, .bool false, .bool false, .bool false, .bool false, .bool false] 51)) := pkgFrom 62 6 false false (fun w => fromType_duration _ w) w
theorem zz_duration (w : World) : Calls Tryr.prog 19 #[] w fun e w' => e = .returned (.agg #[(.iface 76 (.pointer (some ⟨0, 62, none⟩))), .int .u64 6, .pointer none, .pointer none, .bool false, .bool false, .bool false, .bool false, .bool false]) ∧ w' = (((w.alloc (.cells #[(.iface 76 (.pointer (some ⟨0, 62, none⟩))), .int .u64 6, .pointer none, .pointer none, .bool false, .bool false, .bool false, .bool false, .bool false] 51)).alloc (.cells #[(.iface 76 (.pointer (some ⟨0, 62, none⟩))), .int .u64 6, .pointer none, .pointer none, .bool false, .bool false, .bool false, .bool false, .bool false] 51)).alloc (.cells #[(.iface 76 (.pointer (some ⟨0, 62, none⟩))), .int .u64 6, .pointer none, .pointer none, .bool false, .bool false, .bool false, .bool false, .bool false] 51)) := by
  have g := typeOf
  go_enter Tryr.func19, Tryr.ntmps19
  go_wp2_with fail
  refine (pkgFrom_duration _).mono ?_
  rintro e w1 ⟨rfl, rfl⟩
  go_wp2
  go_returns
  exact ⟨rfl, rfl⟩
theorem code_duration (w : World) : Calls Tryr.prog 7 #[.int .i64 8] w fun e w' => e = .returned (.agg #[(.iface 76 (.pointer (some ⟨0, 62, none⟩))), .int .u64 6, .pointer none, .pointer none, .bool false, .bool false, .bool false, .bool false, .bool false]) ∧ Below w.heap.size w w' := by
  go_enter Tryr.func7, Tryr.ntmps7
  go_wp2_with fail
  refine (zz_duration _).mono ?_
  rintro e w1 ⟨rfl, rfl⟩
  go_wp2
  go_returns
  exact ⟨rfl, by go_grown⟩
theorem fromType_time (w : World) : Calls Tryr.prog 42 #[.pointer none, (.iface 76 (.pointer (some ⟨0, 65, none⟩)))] w fun e w' => ∃ g : Nat, e = .returned (.agg #[(.iface 76 (.pointer (some ⟨0, 65, none⟩))), .int .u64 25, .pointer (some ⟨g, 0, none⟩), .pointer none, .bool false, .bool false, .bool false, .bool false, .bool false]) ∧ w' = ((w.alloc (.cells #[(.iface 76 (.pointer (some ⟨0, 65, none⟩))), .int .u64 25, .pointer (some ⟨g, 0, none⟩), .pointer none, .bool false, .bool false, .bool false, .bool false, .bool false] 51)).alloc (.cells #[.pointer none, .pointer none, .map none, .pointer none, .pointer none, .int .i64 0, .pointer none, .pointer none, .int .i64 0, .int .i64 0, .bool false, .bool false, .bool false, .bool false] 85)) := by
  have g := kind_time
  go_enter Tryr.func42, Tryr.ntmps42
  go_wp2
  go_returns
  exact ⟨_, rfl, rfl⟩
theorem pkgFrom_time (w : World) : Calls Tryr.prog 30 #[(.iface 76 (.pointer (some ⟨0, 65, none⟩)))] w fun e w' => ∃ g : Nat, e = .returned (.agg #[(.iface 76 (.pointer (some ⟨0, 65, none⟩))), .int .u64 25, .pointer (some ⟨g, 0, none⟩), .pointer none, .bool false, .bool false, .bool false, .bool false, .bool false]) ∧ w' = (((w.alloc (.cells #[(.iface 76 (.pointer (some ⟨0, 65, none⟩))), .int .u64 25, .pointer (some ⟨g, 0, none⟩), .pointer none, .bool false, .bool false, .bool false, .bool false, .bool false] 51)).alloc (.cells #[(.iface 76 (.pointer (some ⟨0, 65, none⟩))), .int .u64 25, .pointer (some ⟨g, 0, none⟩), .pointer none, .bool false, .bool false, .bool false, .bool false, .bool false] 51)).alloc (.cells #[.pointer none, .pointer none, .map none, .pointer none, .pointer none, .int .i64 0, .pointer none, .pointer none, .int .i64 0, .int .i64 0, .bool false, .bool false, .bool false, .bool false] 85)) := by
  go_enter Tryr.func30, Tryr.ntmps30
  go_wp2_with fail
  refine (fromType_time _).mono ?_
  rintro e w1 ⟨g, rfl, rfl⟩
  go_wp2
  go_returns
  exact ⟨_, rfl, rfl⟩
theorem zz_time (w : World) : Calls Tryr.prog 20 #[] w fun e w' => ∃ g : Nat, e = .returned (.agg #[(.iface 76 (.pointer (some ⟨0, 65, none⟩))), .int .u64 25, .pointer (some ⟨g, 0, none⟩), .pointer none, .bool false, .bool false, .bool false, .bool false, .bool false]) ∧ w' = ((((w.alloc (.cells #[(.iface 76 (.pointer (some ⟨0, 65, none⟩))), .int .u64 25, .pointer (some ⟨g, 0, none⟩), .pointer none, .bool false, .bool false, .bool false, .bool false, .bool false] 51)).alloc (.cells #[(.iface 76 (.pointer (some ⟨0, 65, none⟩))), .int .u64 25, .pointer (some ⟨g, 0, none⟩), .pointer none, .bool false, .bool false, .bool false, .bool false, .bool false] 51)).alloc (.cells #[(.iface 76 (.pointer (some ⟨0, 65, none⟩))), .int .u64 25, .pointer (some ⟨g, 0, none⟩), .pointer none, .bool false, .bool false, .bool false, .bool false, .bool false] 51)).alloc (.cells #[.pointer none, .pointer none, .map none, .pointer none, .pointer none, .int .i64 0, .pointer none, .pointer none, .int .i64 0, .int .i64 0, .bool false, .bool false, .bool false, .bool false] 85)) := by
  have g := typeOf
  go_enter Tryr.func20, Tryr.ntmps20
  go_wp2_with fail
  refine (pkgFrom_time _).mono ?_
  rintro e w1 ⟨g, rfl, rfl⟩
  go_wp2
  go_returns
  exact ⟨_, rfl, rfl⟩
theorem code_time (w : World) : Calls Tryr.prog 7 #[.int .i64 9] w fun e w' => ∃ g : Nat, e = .returned (.agg #[(.iface 76 (.pointer (some ⟨0, 65, none⟩))), .int .u64 25, .pointer (some ⟨g, 0, none⟩), .pointer none, .bool false, .bool false, .bool false, .bool false, .bool false]) ∧ Below w.heap.size w w' := by
  go_enter Tryr.func7, Tryr.ntmps7
  go_wp2_with fail
  refine (zz_time _).mono ?_
  rintro e w1 ⟨g, rfl, rfl⟩
  go_wp2
  go_returns
  exact ⟨_, rfl, by go_grown⟩
theorem fromType_anys (cv : Value) (w : World) : Calls Tryr.prog 42 #[cv, (.iface 76 (.pointer (some ⟨0, 66, none⟩)))] w fun e w' => e = .returned (.agg #[(.iface 76 (.pointer (some ⟨0, 66, none⟩))), .int .u64 23, .pointer none, .pointer none, .bool false, .bool false, .bool false, .bool false, .bool false]) ∧ w' = (w.alloc (.cells #[(.iface 76 (.pointer (some ⟨0, 66, none⟩))), .int .u64 23, .pointer none, .pointer none, .bool false, .bool false, .bool false, .bool false, .bool false] 51)) := by
  have g := kind_anys
  go_enter Tryr.func42, Tryr.ntmps42
  go_wp2
  go_returns
  exact ⟨rfl, rfl⟩
theorem pkgFrom_anys (w : World) : Calls Tryr.prog 30 #[(.iface 76 (.pointer (some ⟨0, 66, none⟩)))] w fun e w' => e = .returned (.agg #[(.iface 76 (.pointer (some ⟨0, 66, none⟩))), .int .u64 23, .pointer none, .pointer none, .bool false, .bool false, .bool false, .bool false, .bool false]) ∧ w' = ((w.alloc (.cells #[(.iface 76 (.pointer (some ⟨0, 66, none⟩))), .int .u64 23, .pointer none, .pointer none, .bool false, .bool false, .bool false, .bool false, .bool false] 51)).alloc (.cells #[(.iface 76 (.pointer (some ⟨0, 66, none⟩))), .int .u64 23, .pointer none, .pointer none, .bool false, .bool false, .bool false, .bool false, .bool false] 51)) := pkgFrom 66 23 false false (fun w => fromType_anys _ w) w
theorem zz_anys (w : World) : Calls Tryr.prog 21 #[] w fun e w' => ∃ o, e = .returned (.agg #[(.iface 76 (.pointer (some ⟨0, 66, none⟩))), .int .u64 23, .pointer none, .pointer none, .bool false, .bool false, .bool false, .bool false, .bool false]) ∧ w' = ((((w.alloc (.cells #[(.iface 76 (.pointer (some ⟨0, 66, none⟩))), .int .u64 23, .pointer none, .pointer none, .bool false, .bool false, .bool false, .bool false, .bool false] 51)).alloc o).alloc (.cells #[(.iface 76 (.pointer (some ⟨0, 66, none⟩))), .int .u64 23, .pointer none, .pointer none, .bool false, .bool false, .bool false, .bool false, .bool false] 51)).alloc (.cells #[(.iface 76 (.pointer (some ⟨0, 66, none⟩))), .int .u64 23, .pointer none, .pointer none, .bool false, .bool false, .bool false, .bool false, .bool false] 51)) := by
  have g := typeOf
  go_enter Tryr.func21, Tryr.ntmps21
  go_wp2_with fail
  refine (pkgFrom_anys _).mono ?_
  rintro e w1 ⟨rfl, rfl⟩
  go_wp2
  go_returns
  exact ⟨_, rfl, rfl⟩
theorem code_anys (w : World) : Calls Tryr.prog 7 #[.int .i64 10] w fun e w' => e = .returned (.agg #[(.iface 76 (.pointer (some ⟨0, 66, none⟩))), .int .u64 23, .pointer none, .pointer none, .bool false, .bool false, .bool false, .bool false, .bool false]) ∧ Below w.heap.size w w' := by
  go_enter Tryr.func7, Tryr.ntmps7
  go_wp2_with fail
  refine (zz_anys _).mono ?_
  rintro e w1 ⟨o, rfl, rfl⟩
  go_wp2
  go_returns
  exact ⟨rfl, by go_grown⟩
theorem fromType_ints (cv : Value) (w : World) : Calls Tryr.prog 42 #[cv, (.iface 76 (.pointer (some ⟨0, 67, none⟩)))] w fun e w' => e = .returned (.agg #[(.iface 76 (.pointer (some ⟨0, 67, none⟩))), .int .u64 23, .pointer none, .pointer none, .bool false, .bool false, .bool false, .bool false, .bool false]) ∧ w' = (w.alloc (.cells #[(.iface 76 (.pointer (some ⟨0, 67, none⟩))), .int .u64 23, .pointer none, .pointer none, .bool false, .bool false, .bool false, .bool false, .bool false] 51)) := by
  have g := kind_ints
  go_enter Tryr.func42, Tryr.ntmps42
  go_wp2
  go_returns
  exact ⟨rfl, rfl⟩
theorem pkgFrom_ints (w : World) : Calls Tryr.prog 30 #[(.iface 76 (.pointer (some ⟨0, 67, none⟩)))] w fun e w' => e = .returned (.agg #[(.iface 76 (.pointer (some ⟨0, 67, none⟩))), .int .u64 23, .pointer none, .pointer none, .bool false, .bool false, .bool false, .bool false, .bool false]) ∧ w' = ((w.alloc (.cells #[(.iface 76 (.pointer (some ⟨0, 67, none⟩))), .int .u64 23, .pointer none, .pointer none, .bool false, .bool false, .bool false, .bool false, .bool false] 51)).alloc (.cells #[(.iface 76 (.pointer (some ⟨0, 67, none⟩))), .int .u64 23, .pointer none, .pointer none, .bool false, .bool false, .bool false, .bool false, .bool false] 51)) := pkgFrom 67 23 false false (fun w => fromType_ints _ w) w
theorem zz_ints (w : World) : Calls Tryr.prog 22 #[] w fun e w' => ∃ o, e = .returned (.agg #[(.iface 76 (.pointer (some ⟨0, 67, none⟩))), .int .u64 23, .pointer none, .pointer none, .bool false, .bool false, .bool false, .bool false, .bool false]) ∧ w' = ((((w.alloc (.cells #[(.iface 76 (.pointer (some ⟨0, 67, none⟩))), .int .u64 23, .pointer none, .pointer none, .bool false, .bool false, .bool false, .bool false, .bool false] 51)).alloc o).alloc (.cells #[(.iface 76 (.pointer (some ⟨0, 67, none⟩))), .int .u64 23, .pointer none, .pointer none, .bool false, .bool false, .bool false, .bool false, .bool false] 51)).alloc (.cells #[(.iface 76 (.pointer (some ⟨0, 67, none⟩))), .int .u64 23, .pointer none, .pointer none, .bool false, .bool false, .bool false, .bool false, .bool false] 51)) := by
  have g := typeOf
  go_enter Tryr.func22, Tryr.ntmps22
  go_wp2_with fail
  refine (pkgFrom_ints _).mono ?_
  rintro e w1 ⟨rfl, rfl⟩
  go_wp2
  go_returns
  exact ⟨_, rfl, rfl⟩
theorem code_ints (w : World) : Calls Tryr.prog 7 #[.int .i64 11] w fun e w' => e = .returned (.agg #[(.iface 76 (.pointer (some ⟨0, 67, none⟩))), .int .u64 23, .pointer none, .pointer none, .bool false, .bool false, .bool false, .bool false, .bool false]) ∧ Below w.heap.size w w' := by
  go_enter Tryr.func7, Tryr.ntmps7
  go_wp2_with fail
  refine (zz_ints _).mono ?_
  rintro e w1 ⟨o, rfl, rfl⟩
  go_wp2
  go_returns
  exact ⟨rfl, by go_grown⟩
theorem fromType_any (cv : Value) (w : World) : Calls Tryr.prog 42 #[cv, (.iface 76 (.pointer (some ⟨0, 20, none⟩)))] w fun e w' => e = .returned (.agg #[(.iface 76 (.pointer (some ⟨0, 20, none⟩))), .int .u64 20, .pointer none, .pointer none, .bool false, .bool false, .bool false, .bool false, .bool false]) ∧ w' = (w.alloc (.cells #[(.iface 76 (.pointer (some ⟨0, 20, none⟩))), .int .u64 20, .pointer none, .pointer none, .bool false, .bool false, .bool false, .bool false, .bool false] 51)) := by
  have g := kind_any
  go_enter Tryr.func42, Tryr.ntmps42
  go_wp2
  go_returns
  exact ⟨rfl, rfl⟩
theorem pkgFrom_any (w : World) : Calls Tryr.prog 30 #[(.iface 76 (.pointer (some ⟨0, 20, none⟩)))] w fun e w' => e = .returned (.agg #[(.iface 76 (.pointer (some ⟨0, 20, none⟩))), .int .u64 20, .pointer none, .pointer none, .bool false, .bool false, .bool false, .bool false, .bool false]) ∧ w' = ((w.alloc (.cells #[(.iface 76 (.pointer (some ⟨0, 20, none⟩))), .int .u64 20, .pointer none, .pointer none, .bool false, .bool false, .bool false, .bool false, .bool false] 51)).alloc (.cells #[(.iface 76 (.pointer (some ⟨0, 20, none⟩))), .int .u64 20, .pointer none, .pointer none, .bool false, .bool false, .bool false, .bool false, .bool false] 51)) := pkgFrom 20 20 false false (fun w => fromType_any _ w) w
theorem zz_any (w : World) : Calls Tryr.prog 23 #[] w fun e w' => e = .returned (.agg #[(.iface 76 (.pointer (some ⟨0, 20, none⟩))), .int .u64 20, .pointer none, .pointer none, .bool false, .bool false, .bool false, .bool false, .bool false]) ∧ w' = (((w.alloc (.cells #[(.iface 76 (.pointer (some ⟨0, 20, none⟩))), .int .u64 20, .pointer none, .pointer none, .bool false, .bool false, .bool false, .bool false, .bool false] 51)).alloc (.cells #[(.iface 76 (.pointer (some ⟨0, 20, none⟩))), .int .u64 20, .pointer none, .pointer none, .bool false, .bool false, .bool false, .bool false, .bool false] 51)).alloc (.cells #[(.iface 76 (.pointer (some ⟨0, 20, none⟩))), .int .u64 20, .pointer none, .pointer none, .bool false, .bool false, .bool false, .bool false, .bool false] 51)) := by
  have g := typeOf
  have g1 := elem_any
  go_enter Tryr.func23, Tryr.ntmps23
  go_wp2_with fail
  refine (pkgFrom_any _).mono ?_
  rintro e w1 ⟨rfl, rfl⟩
  go_wp2
  go_returns
  exact ⟨rfl, rfl⟩
theorem code_any (w : World) : Calls Tryr.prog 7 #[.int .i64 12] w fun e w' => e = .returned (.agg #[(.iface 76 (.pointer (some ⟨0, 20, none⟩))), .int .u64 20, .pointer none, .pointer none, .bool false, .bool false, .bool false, .bool false, .bool false]) ∧ Below w.heap.size w w' := by
  go_enter Tryr.func7, Tryr.ntmps7
  go_wp2_with fail
  refine (zz_any _).mono ?_
  rintro e w1 ⟨rfl, rfl⟩
  go_wp2
  go_returns
  exact ⟨rfl, by go_grown⟩
theorem fromType_error (cv : Value) (w : World) : Calls Tryr.prog 42 #[cv, (.iface 76 (.pointer (some ⟨0, 25, none⟩)))] w fun e w' => e = .returned (.agg #[(.iface 76 (.pointer (some ⟨0, 25, none⟩))), .int .u64 20, .pointer none, .pointer none, .bool false, .bool false, .bool false, .bool false, .bool false]) ∧ w' = (w.alloc (.cells #[(.iface 76 (.pointer (some ⟨0, 25, none⟩))), .int .u64 20, .pointer none, .pointer none, .bool false, .bool false, .bool false, .bool false, .bool false] 51)) := by
  have g := kind_error
  go_enter Tryr.func42, Tryr.ntmps42
  go_wp2
  go_returns
  exact ⟨rfl, rfl⟩
theorem pkgFrom_error (w : World) : Calls Tryr.prog 30 #[(.iface 76 (.pointer (some ⟨0, 25, none⟩)))] w fun e w' => e = .returned (.agg #[(.iface 76 (.pointer (some ⟨0, 25, none⟩))), .int .u64 20, .pointer none, .pointer none, .bool false, .bool false, .bool false, .bool false, .bool false]) ∧ w' = ((w.alloc (.cells #[(.iface 76 (.pointer (some ⟨0, 25, none⟩))), .int .u64 20, .pointer none, .pointer none, .bool false, .bool false, .bool false, .bool false, .bool false] 51)).alloc (.cells #[(.iface 76 (.pointer (some ⟨0, 25, none⟩))), .int .u64 20, .pointer none, .pointer none, .bool false, .bool false, .bool false, .bool false, .bool false] 51)) := pkgFrom 25 20 false false (fun w => fromType_error _ w) w
theorem zz_error (w : World) : Calls Tryr.prog 24 #[] w fun e w' => e = .returned (.agg #[(.iface 76 (.pointer (some ⟨0, 25, none⟩))), .int .u64 20, .pointer none, .pointer none, .bool false, .bool false, .bool false, .bool false, .bool false]) ∧ w' = (((w.alloc (.cells #[(.iface 76 (.pointer (some ⟨0, 25, none⟩))), .int .u64 20, .pointer none, .pointer none, .bool false, .bool false, .bool false, .bool false, .bool false] 51)).alloc (.cells #[(.iface 76 (.pointer (some ⟨0, 25, none⟩))), .int .u64 20, .pointer none, .pointer none, .bool false, .bool false, .bool false, .bool false, .bool false] 51)).alloc (.cells #[(.iface 76 (.pointer (some ⟨0, 25, none⟩))), .int .u64 20, .pointer none, .pointer none, .bool false, .bool false, .bool false, .bool false, .bool false] 51)) := by
  have g := typeOf
  have g1 := elem_error
  go_enter Tryr.func24, Tryr.ntmps24
  go_wp2_with fail
  refine (pkgFrom_error _).mono ?_
  rintro e w1 ⟨rfl, rfl⟩
  go_wp2
  go_returns
  exact ⟨rfl, rfl⟩
theorem code_error (w : World) : Calls Tryr.prog 7 #[.int .i64 13] w fun e w' => e = .returned (.agg #[(.iface 76 (.pointer (some ⟨0, 25, none⟩))), .int .u64 20, .pointer none, .pointer none, .bool false, .bool false, .bool false, .bool false, .bool false]) ∧ Below w.heap.size w w' := by
  go_enter Tryr.func7, Tryr.ntmps7
  go_wp2_with fail
  refine (zz_error _).mono ?_
  rintro e w1 ⟨rfl, rfl⟩
  go_wp2
  go_returns
  exact ⟨rfl, by go_grown⟩
theorem fromType_map (cv : Value) (w : World) : Calls Tryr.prog 42 #[cv, (.iface 76 (.pointer (some ⟨0, 71, none⟩)))] w fun e w' => e = .returned (.agg #[(.iface 76 (.pointer (some ⟨0, 71, none⟩))), .int .u64 21, .pointer none, .pointer none, .bool false, .bool false, .bool false, .bool false, .bool false]) ∧ w' = (w.alloc (.cells #[(.iface 76 (.pointer (some ⟨0, 71, none⟩))), .int .u64 21, .pointer none, .pointer none, .bool false, .bool false, .bool false, .bool false, .bool false] 51)) := by
  have g := kind_map
  go_enter Tryr.func42, Tryr.ntmps42
  go_wp2
  go_returns
  exact ⟨rfl, rfl⟩
theorem pkgFrom_map (w : World) : Calls Tryr.prog 30 #[(.iface 76 (.pointer (some ⟨0, 71, none⟩)))] w fun e w' => e = .returned (.agg #[(.iface 76 (.pointer (some ⟨0, 71, none⟩))), .int .u64 21, .pointer none, .pointer none, .bool false, .bool false, .bool false, .bool false, .bool false]) ∧ w' = ((w.alloc (.cells #[(.iface 76 (.pointer (some ⟨0, 71, none⟩))), .int .u64 21, .pointer none, .pointer none, .bool false, .bool false, .bool false, .bool false, .bool false] 51)).alloc (.cells #[(.iface 76 (.pointer (some ⟨0, 71, none⟩))), .int .u64 21, .pointer none, .pointer none, .bool false, .bool false, .bool false, .bool false, .bool false] 51)) := pkgFrom 71 21 false false (fun w => fromType_map _ w) w
theorem zz_map (w : World) : Calls Tryr.prog 25 #[] w fun e w' => ∃ o, e = .returned (.agg #[(.iface 76 (.pointer (some ⟨0, 71, none⟩))), .int .u64 21, .pointer none, .pointer none, .bool false, .bool false, .bool false, .bool false, .bool false]) ∧ w' = ((((w.alloc (.cells #[(.iface 76 (.pointer (some ⟨0, 71, none⟩))), .int .u64 21, .pointer none, .pointer none, .bool false, .bool false, .bool false, .bool false, .bool false] 51)).alloc o).alloc (.cells #[(.iface 76 (.pointer (some ⟨0, 71, none⟩))), .int .u64 21, .pointer none, .pointer none, .bool false, .bool false, .bool false, .bool false, .bool false] 51)).alloc (.cells #[(.iface 76 (.pointer (some ⟨0, 71, none⟩))), .int .u64 21, .pointer none, .pointer none, .bool false, .bool false, .bool false, .bool false, .bool false] 51)) := by
  have g := typeOf
  have g1 := mkMap
  go_enter Tryr.func25, Tryr.ntmps25
  go_wp2_with fail
  refine (pkgFrom_map _).mono ?_
  rintro e w1 ⟨rfl, rfl⟩
  go_wp2
  go_returns
  exact ⟨_, rfl, rfl⟩
theorem code_map (w : World) : Calls Tryr.prog 7 #[.int .i64 14] w fun e w' => e = .returned (.agg #[(.iface 76 (.pointer (some ⟨0, 71, none⟩))), .int .u64 21, .pointer none, .pointer none, .bool false, .bool false, .bool false, .bool false, .bool false]) ∧ Below w.heap.size w w' := by
  go_enter Tryr.func7, Tryr.ntmps7
  go_wp2_with fail
  refine (zz_map _).mono ?_
  rintro e w1 ⟨o, rfl, rfl⟩
  go_wp2
  go_returns
  exact ⟨rfl, by go_grown⟩
theorem builtin_month (w : World) : Calls Tryr.prog 51 #[(.iface 76 (.pointer (some ⟨0, 72, none⟩)))] w fun e w' => e = .returned (.bool false) ∧ w' = w := by
  have g1 := typeOf
  have g2 := eql
  go_enter Tryr.func51, Tryr.ntmps51
  go_wp2
  go_ret
  exact ⟨rfl, rfl⟩
theorem fromType_month (cv : Value) (w : World) : Calls Tryr.prog 42 #[cv, (.iface 76 (.pointer (some ⟨0, 72, none⟩)))] w fun e w' => e = .returned (.agg #[(.iface 76 (.pointer (some ⟨0, 72, none⟩))), .int .u64 2, .pointer none, .pointer none, .bool false, .bool false, .bool false, .bool false, .bool false]) ∧ w' = (w.alloc (.cells #[(.iface 76 (.pointer (some ⟨0, 72, none⟩))), .int .u64 2, .pointer none, .pointer none, .bool false, .bool false, .bool false, .bool false, .bool false] 51)) := by
  have g := kind_month
  go_enter Tryr.func42, Tryr.ntmps42
  go_wp2_with fail
  refine (builtin_month _).mono ?_
  rintro e w1 ⟨rfl, rfl⟩
  go_wp2
  go_returns
  exact ⟨rfl, rfl⟩
theorem pkgFrom_month (w : World) : Calls Tryr.prog 30 #[(.iface 76 (.pointer (some ⟨0, 72, none⟩)))] w fun e w' => e = .returned (.agg #[(.iface 76 (.pointer (some ⟨0, 72, none⟩))), .int .u64 2, .pointer none, .pointer none, .bool false, .bool false, .bool false, .bool false, .bool false]) ∧ w' = ((w.alloc (.cells #[(.iface 76 (.pointer (some ⟨0, 72, none⟩))), .int .u64 2, .pointer none, .pointer none, .bool false, .bool false, .bool false, .bool false, .bool false] 51)).alloc (.cells #[(.iface 76 (.pointer (some ⟨0, 72, none⟩))), .int .u64 2, .pointer none, .pointer none, .bool false, .bool false, .bool false, .bool false, .bool false] 51)) := pkgFrom 72 2 false false (fun w => fromType_month _ w) w
theorem zz_month (w : World) : Calls Tryr.prog 26 #[] w fun e w' => e = .returned (.agg #[(.iface 76 (.pointer (some ⟨0, 72, none⟩))), .int .u64 2, .pointer none, .pointer none, .bool false, .bool false, .bool false, .bool false, .bool false]) ∧ w' = (((w.alloc (.cells #[(.iface 76 (.pointer (some ⟨0, 72, none⟩))), .int .u64 2, .pointer none, .pointer none, .bool false, .bool false, .bool false, .bool false, .bool false] 51)).alloc (.cells #[(.iface 76 (.pointer (some ⟨0, 72, none⟩))), .int .u64 2, .pointer none, .pointer none, .bool false, .bool false, .bool false, .bool false, .bool false] 51)).alloc (.cells #[(.iface 76 (.pointer (some ⟨0, 72, none⟩))), .int .u64 2, .pointer none, .pointer none, .bool false, .bool false, .bool false, .bool false, .bool false] 51)) := by
  have g := typeOf
  go_enter Tryr.func26, Tryr.ntmps26
  go_wp2_with fail
  refine (pkgFrom_month _).mono ?_
  rintro e w1 ⟨rfl, rfl⟩
  go_wp2
  go_returns
  exact ⟨rfl, rfl⟩
theorem code_month (w : World) : Calls Tryr.prog 7 #[.int .i64 15] w fun e w' => e = .returned (.agg #[(.iface 76 (.pointer (some ⟨0, 72, none⟩))), .int .u64 2, .pointer none, .pointer none, .bool false, .bool false, .bool false, .bool false, .bool false]) ∧ Below w.heap.size w w' := by
  go_enter Tryr.func7, Tryr.ntmps7
  go_wp2_with fail
  refine (zz_month _).mono ?_
  rintro e w1 ⟨rfl, rfl⟩
  go_wp2
  go_returns
  exact ⟨rfl, by go_grown⟩
theorem fromType_ptr (cv : Value) (w : World) : Calls Tryr.prog 42 #[cv, (.iface 76 (.pointer (some ⟨0, 73, none⟩)))] w fun e w' => e = .returned (.agg #[(.iface 76 (.pointer (some ⟨0, 73, none⟩))), .int .u64 22, .pointer none, .pointer none, .bool false, .bool false, .bool false, .bool false, .bool false]) ∧ w' = (w.alloc (.cells #[(.iface 76 (.pointer (some ⟨0, 73, none⟩))), .int .u64 22, .pointer none, .pointer none, .bool false, .bool false, .bool false, .bool false, .bool false] 51)) := by
  have g := kind_ptr
  go_enter Tryr.func42, Tryr.ntmps42
  go_wp2
  go_returns
  exact ⟨rfl, rfl⟩
theorem pkgFrom_ptr (w : World) : Calls Tryr.prog 30 #[(.iface 76 (.pointer (some ⟨0, 73, none⟩)))] w fun e w' => e = .returned (.agg #[(.iface 76 (.pointer (some ⟨0, 73, none⟩))), .int .u64 22, .pointer none, .pointer none, .bool false, .bool false, .bool false, .bool false, .bool false]) ∧ w' = ((w.alloc (.cells #[(.iface 76 (.pointer (some ⟨0, 73, none⟩))), .int .u64 22, .pointer none, .pointer none, .bool false, .bool false, .bool false, .bool false, .bool false] 51)).alloc (.cells #[(.iface 76 (.pointer (some ⟨0, 73, none⟩))), .int .u64 22, .pointer none, .pointer none, .bool false, .bool false, .bool false, .bool false, .bool false] 51)) := pkgFrom 73 22 false false (fun w => fromType_ptr _ w) w
theorem zz_ptr (w : World) : Calls Tryr.prog 27 #[] w fun e w' => e = .returned (.agg #[(.iface 76 (.pointer (some ⟨0, 73, none⟩))), .int .u64 22, .pointer none, .pointer none, .bool false, .bool false, .bool false, .bool false, .bool false]) ∧ w' = (((w.alloc (.cells #[(.iface 76 (.pointer (some ⟨0, 73, none⟩))), .int .u64 22, .pointer none, .pointer none, .bool false, .bool false, .bool false, .bool false, .bool false] 51)).alloc (.cells #[(.iface 76 (.pointer (some ⟨0, 73, none⟩))), .int .u64 22, .pointer none, .pointer none, .bool false, .bool false, .bool false, .bool false, .bool false] 51)).alloc (.cells #[(.iface 76 (.pointer (some ⟨0, 73, none⟩))), .int .u64 22, .pointer none, .pointer none, .bool false, .bool false, .bool false, .bool false, .bool false] 51)) := by
  have g := typeOf
  go_enter Tryr.func27, Tryr.ntmps27
  go_wp2_with fail
  refine (pkgFrom_ptr _).mono ?_
  rintro e w1 ⟨rfl, rfl⟩
  go_wp2
  go_returns
  exact ⟨rfl, rfl⟩
theorem code_ptr (w : World) : Calls Tryr.prog 7 #[.int .i64 16] w fun e w' => e = .returned (.agg #[(.iface 76 (.pointer (some ⟨0, 73, none⟩))), .int .u64 22, .pointer none, .pointer none, .bool false, .bool false, .bool false, .bool false, .bool false]) ∧ Below w.heap.size w w' := by
  go_enter Tryr.func7, Tryr.ntmps7
  go_wp2_with fail
  refine (zz_ptr _).mono ?_
  rintro e w1 ⟨rfl, rfl⟩
  go_wp2
  go_returns
  exact ⟨rfl, by go_grown⟩
theorem fromType_nil (cv : Value) (w : World) : Calls Tryr.prog 42 #[cv, .nilIface] w fun e w' => e = .returned (.agg #[.nilIface, .int .u64 0, .pointer none, .pointer none, .bool false, .bool false, .bool false, .bool false, .bool false]) ∧ w' = w.alloc (.cells #[.nilIface, .int .u64 0, .pointer none, .pointer none, .bool false, .bool false, .bool false, .bool false, .bool false] 51) := by
  go_enter Tryr.func42, Tryr.ntmps42
  go_wp2
  go_returns
  exact ⟨rfl, rfl⟩
theorem pkgFrom_nil (w : World) : Calls Tryr.prog 30 #[.nilIface] w fun e w' => e = .returned (.agg #[.nilIface, .int .u64 0, .pointer none, .pointer none, .bool false, .bool false, .bool false, .bool false, .bool false]) ∧ w' = (w.alloc (.cells #[.nilIface, .int .u64 0, .pointer none, .pointer none, .bool false, .bool false, .bool false, .bool false, .bool false] 51)).alloc (.cells #[.nilIface, .int .u64 0, .pointer none, .pointer none, .bool false, .bool false, .bool false, .bool false, .bool false] 51) := by
  go_enter Tryr.func30, Tryr.ntmps30
  go_wp2_with fail
  refine (fromType_nil _ _).mono ?_
  rintro e w1 ⟨rfl, rfl⟩
  go_wp2
  go_returns
  exact ⟨rfl, rfl⟩
theorem zz_unknown (w : World) : Calls Tryr.prog 11 #[] w fun e w' => e = .returned (.agg #[.nilIface, .int .u64 0, .pointer none, .pointer none, .bool false, .bool false, .bool false, .bool false, .bool false]) ∧ w' = ((w.alloc (.cells #[.nilIface, .int .u64 0, .pointer none, .pointer none, .bool false, .bool false, .bool false, .bool false, .bool false] 51)).alloc (.cells #[.nilIface, .int .u64 0, .pointer none, .pointer none, .bool false, .bool false, .bool false, .bool false, .bool false] 51)).alloc (.cells #[.nilIface, .int .u64 0, .pointer none, .pointer none, .bool false, .bool false, .bool false, .bool false, .bool false] 51) := by
  go_enter Tryr.func11, Tryr.ntmps11
  go_wp2_with fail
  refine (pkgFrom_nil _).mono ?_
  rintro e w1 ⟨rfl, rfl⟩
  go_wp2
  go_returns
  exact ⟨rfl, rfl⟩
theorem code_unknown (w : World) : Calls Tryr.prog 7 #[.int .i64 0] w fun e w' => e = .returned (.agg #[.nilIface, .int .u64 0, .pointer none, .pointer none, .bool false, .bool false, .bool false, .bool false, .bool false]) ∧ Below w.heap.size w w' := by
  go_enter Tryr.func7, Tryr.ntmps7
  go_wp2_with fail
  refine (zz_unknown _).mono ?_
  rintro e w1 ⟨rfl, rfl⟩
  go_wp2
  go_returns
  exact ⟨rfl, by go_grown⟩
theorem cacheNat_nil (cv : Value) (w : World) : Calls Tryr.prog 43 #[cv, .nilIface] w fun e w' => e = .returned (.agg #[.nilIface, .int .u64 0, .pointer none, .pointer none, .bool true, .bool false, .bool false, .bool false, .bool false]) ∧ w' = w.alloc (.cells #[.nilIface, .int .u64 0, .pointer none, .pointer none, .bool true, .bool false, .bool false, .bool false, .bool false] 51) := by
  go_enter Tryr.func43, Tryr.ntmps43
  go_wp2
  go_returns
  exact ⟨rfl, rfl⟩
theorem natureOf_nil (w : World) : Calls Tryr.prog 31 #[.nilIface] w fun e w' => e = .returned (.agg #[.nilIface, .int .u64 0, .pointer none, .pointer none, .bool true, .bool false, .bool false, .bool false, .bool false]) ∧ w' = (w.alloc (.cells #[.nilIface, .int .u64 0, .pointer none, .pointer none, .bool true, .bool false, .bool false, .bool false, .bool false] 51)).alloc (.cells #[.nilIface, .int .u64 0, .pointer none, .pointer none, .bool true, .bool false, .bool false, .bool false, .bool false] 51) := by
  go_enter Tryr.func31, Tryr.ntmps31
  go_wp2_with fail
  refine (cacheNat_nil _ _).mono ?_
  rintro e w1 ⟨rfl, rfl⟩
  go_wp2
  go_returns
  exact ⟨rfl, rfl⟩
theorem zz_nil (w : World) : Calls Tryr.prog 12 #[] w fun e w' => e = .returned (.agg #[.nilIface, .int .u64 0, .pointer none, .pointer none, .bool true, .bool false, .bool false, .bool false, .bool false]) ∧ w' = ((w.alloc (.cells #[.nilIface, .int .u64 0, .pointer none, .pointer none, .bool true, .bool false, .bool false, .bool false, .bool false] 51)).alloc (.cells #[.nilIface, .int .u64 0, .pointer none, .pointer none, .bool true, .bool false, .bool false, .bool false, .bool false] 51)).alloc (.cells #[.nilIface, .int .u64 0, .pointer none, .pointer none, .bool true, .bool false, .bool false, .bool false, .bool false] 51) := by
  go_enter Tryr.func12, Tryr.ntmps12
  go_wp2_with fail
  refine (natureOf_nil _).mono ?_
  rintro e w1 ⟨rfl, rfl⟩
  go_wp2
  go_returns
  exact ⟨rfl, rfl⟩
theorem code_nil (w : World) : Calls Tryr.prog 7 #[.int .i64 1] w fun e w' => e = .returned (.agg #[.nilIface, .int .u64 0, .pointer none, .pointer none, .bool true, .bool false, .bool false, .bool false, .bool false]) ∧ Below w.heap.size w w' := by
  go_enter Tryr.func7, Tryr.ntmps7
  go_wp2_with fail
  refine (zz_nil _).mono ?_
  rintro e w1 ⟨rfl, rfl⟩
  go_wp2
  go_returns
  exact ⟨rfl, by go_grown⟩
end Go.Proofs.YthlmcnlkmgeohaaReflFmt.nat
