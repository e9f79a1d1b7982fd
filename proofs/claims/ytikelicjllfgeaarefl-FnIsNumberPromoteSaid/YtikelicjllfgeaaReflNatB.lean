/-
The walks of NatureOf, FromType and of the number's own methods over this cut, for the natures of the thirteen builtin numbers. No condition.
-/
import Derived.Test.YtikelicjllfgeaaReflNatA
namespace Go.Proofs.YtikelicjllfgeaaRefl.nat
open Go Go.Proofs Go.RowKit
set_option maxRecDepth 100000
set_option maxHeartbeats 1000000
theorem builtin_int (w : World) : Calls Tryr.prog 45 #[.iface 89 (.pointer (some ⟨0, 3, none⟩))] w fun e w' => e = .returned (.bool true) ∧ w' = w := by
  have g1 := typeOf
  have g2 := eql
  go_enter Tryr.func45, Tryr.ntmps45
  go_wp2
  go_ret
  exact ⟨rfl, rfl⟩
theorem fromType_int (cv : Value) (w : World) : Calls Tryr.prog 37 #[cv, .iface 89 (.pointer (some ⟨0, 3, none⟩))] w fun e w' => e = .returned (.agg #[.iface 89 (.pointer (some ⟨0, 3, none⟩)), .int .u64 2, .pointer none, .pointer none, .bool false, .bool false, .bool false, .bool true, .bool false]) ∧ w' = w.alloc (.cells #[.iface 89 (.pointer (some ⟨0, 3, none⟩)), .int .u64 2, .pointer none, .pointer none, .bool false, .bool false, .bool false, .bool true, .bool false] 49) := by
  have g := kind_int
  go_enter Tryr.func37, Tryr.ntmps37
  go_wp2_with fail
  refine (builtin_int _).mono ?_
  rintro e w1 ⟨rfl, rfl⟩
  go_wp2
  go_returns
  exact ⟨rfl, rfl⟩
theorem builtin_int8 (w : World) : Calls Tryr.prog 45 #[.iface 89 (.pointer (some ⟨0, 29, none⟩))] w fun e w' => e = .returned (.bool true) ∧ w' = w := by
  have g1 := typeOf
  have g2 := eql
  go_enter Tryr.func45, Tryr.ntmps45
  go_wp2
  go_ret
  exact ⟨rfl, rfl⟩
theorem fromType_int8 (cv : Value) (w : World) : Calls Tryr.prog 37 #[cv, .iface 89 (.pointer (some ⟨0, 29, none⟩))] w fun e w' => e = .returned (.agg #[.iface 89 (.pointer (some ⟨0, 29, none⟩)), .int .u64 3, .pointer none, .pointer none, .bool false, .bool false, .bool false, .bool true, .bool false]) ∧ w' = w.alloc (.cells #[.iface 89 (.pointer (some ⟨0, 29, none⟩)), .int .u64 3, .pointer none, .pointer none, .bool false, .bool false, .bool false, .bool true, .bool false] 49) := by
  have g := kind_int8
  go_enter Tryr.func37, Tryr.ntmps37
  go_wp2_with fail
  refine (builtin_int8 _).mono ?_
  rintro e w1 ⟨rfl, rfl⟩
  go_wp2
  go_returns
  exact ⟨rfl, rfl⟩
theorem builtin_int16 (w : World) : Calls Tryr.prog 45 #[.iface 89 (.pointer (some ⟨0, 28, none⟩))] w fun e w' => e = .returned (.bool true) ∧ w' = w := by
  have g1 := typeOf
  have g2 := eql
  go_enter Tryr.func45, Tryr.ntmps45
  go_wp2
  go_ret
  exact ⟨rfl, rfl⟩
theorem fromType_int16 (cv : Value) (w : World) : Calls Tryr.prog 37 #[cv, .iface 89 (.pointer (some ⟨0, 28, none⟩))] w fun e w' => e = .returned (.agg #[.iface 89 (.pointer (some ⟨0, 28, none⟩)), .int .u64 4, .pointer none, .pointer none, .bool false, .bool false, .bool false, .bool true, .bool false]) ∧ w' = w.alloc (.cells #[.iface 89 (.pointer (some ⟨0, 28, none⟩)), .int .u64 4, .pointer none, .pointer none, .bool false, .bool false, .bool false, .bool true, .bool false] 49) := by
  have g := kind_int16
  go_enter Tryr.func37, Tryr.ntmps37
  go_wp2_with fail
  refine (builtin_int16 _).mono ?_
  rintro e w1 ⟨rfl, rfl⟩
  go_wp2
  go_returns
  exact ⟨rfl, rfl⟩
theorem builtin_int32 (w : World) : Calls Tryr.prog 45 #[.iface 89 (.pointer (some ⟨0, 21, none⟩))] w fun e w' => e = .returned (.bool true) ∧ w' = w := by
  have g1 := typeOf
  have g2 := eql
  go_enter Tryr.func45, Tryr.ntmps45
  go_wp2
  go_ret
  exact ⟨rfl, rfl⟩
theorem fromType_int32 (cv : Value) (w : World) : Calls Tryr.prog 37 #[cv, .iface 89 (.pointer (some ⟨0, 21, none⟩))] w fun e w' => e = .returned (.agg #[.iface 89 (.pointer (some ⟨0, 21, none⟩)), .int .u64 5, .pointer none, .pointer none, .bool false, .bool false, .bool false, .bool true, .bool false]) ∧ w' = w.alloc (.cells #[.iface 89 (.pointer (some ⟨0, 21, none⟩)), .int .u64 5, .pointer none, .pointer none, .bool false, .bool false, .bool false, .bool true, .bool false] 49) := by
  have g := kind_int32
  go_enter Tryr.func37, Tryr.ntmps37
  go_wp2_with fail
  refine (builtin_int32 _).mono ?_
  rintro e w1 ⟨rfl, rfl⟩
  go_wp2
  go_returns
  exact ⟨rfl, rfl⟩
theorem builtin_int64 (w : World) : Calls Tryr.prog 45 #[.iface 89 (.pointer (some ⟨0, 2, none⟩))] w fun e w' => e = .returned (.bool true) ∧ w' = w := by
  have g1 := typeOf
  have g2 := eql
  go_enter Tryr.func45, Tryr.ntmps45
  go_wp2
  go_ret
  exact ⟨rfl, rfl⟩
theorem fromType_int64 (cv : Value) (w : World) : Calls Tryr.prog 37 #[cv, .iface 89 (.pointer (some ⟨0, 2, none⟩))] w fun e w' => e = .returned (.agg #[.iface 89 (.pointer (some ⟨0, 2, none⟩)), .int .u64 6, .pointer none, .pointer none, .bool false, .bool false, .bool false, .bool true, .bool false]) ∧ w' = w.alloc (.cells #[.iface 89 (.pointer (some ⟨0, 2, none⟩)), .int .u64 6, .pointer none, .pointer none, .bool false, .bool false, .bool false, .bool true, .bool false] 49) := by
  have g := kind_int64
  go_enter Tryr.func37, Tryr.ntmps37
  go_wp2_with fail
  refine (builtin_int64 _).mono ?_
  rintro e w1 ⟨rfl, rfl⟩
  go_wp2
  go_returns
  exact ⟨rfl, rfl⟩
theorem builtin_uint (w : World) : Calls Tryr.prog 45 #[.iface 89 (.pointer (some ⟨0, 30, none⟩))] w fun e w' => e = .returned (.bool true) ∧ w' = w := by
  have g1 := typeOf
  have g2 := eql
  go_enter Tryr.func45, Tryr.ntmps45
  go_wp2
  go_ret
  exact ⟨rfl, rfl⟩
theorem fromType_uint (cv : Value) (w : World) : Calls Tryr.prog 37 #[cv, .iface 89 (.pointer (some ⟨0, 30, none⟩))] w fun e w' => e = .returned (.agg #[.iface 89 (.pointer (some ⟨0, 30, none⟩)), .int .u64 7, .pointer none, .pointer none, .bool false, .bool false, .bool false, .bool true, .bool false]) ∧ w' = w.alloc (.cells #[.iface 89 (.pointer (some ⟨0, 30, none⟩)), .int .u64 7, .pointer none, .pointer none, .bool false, .bool false, .bool false, .bool true, .bool false] 49) := by
  have g := kind_uint
  go_enter Tryr.func37, Tryr.ntmps37
  go_wp2_with fail
  refine (builtin_uint _).mono ?_
  rintro e w1 ⟨rfl, rfl⟩
  go_wp2
  go_returns
  exact ⟨rfl, rfl⟩
theorem builtin_uint8 (w : World) : Calls Tryr.prog 45 #[.iface 89 (.pointer (some ⟨0, 5, none⟩))] w fun e w' => e = .returned (.bool true) ∧ w' = w := by
  have g1 := typeOf
  have g2 := eql
  go_enter Tryr.func45, Tryr.ntmps45
  go_wp2
  go_ret
  exact ⟨rfl, rfl⟩
theorem fromType_uint8 (cv : Value) (w : World) : Calls Tryr.prog 37 #[cv, .iface 89 (.pointer (some ⟨0, 5, none⟩))] w fun e w' => e = .returned (.agg #[.iface 89 (.pointer (some ⟨0, 5, none⟩)), .int .u64 8, .pointer none, .pointer none, .bool false, .bool false, .bool false, .bool true, .bool false]) ∧ w' = w.alloc (.cells #[.iface 89 (.pointer (some ⟨0, 5, none⟩)), .int .u64 8, .pointer none, .pointer none, .bool false, .bool false, .bool false, .bool true, .bool false] 49) := by
  have g := kind_uint8
  go_enter Tryr.func37, Tryr.ntmps37
  go_wp2_with fail
  refine (builtin_uint8 _).mono ?_
  rintro e w1 ⟨rfl, rfl⟩
  go_wp2
  go_returns
  exact ⟨rfl, rfl⟩
theorem builtin_uint16 (w : World) : Calls Tryr.prog 45 #[.iface 89 (.pointer (some ⟨0, 31, none⟩))] w fun e w' => e = .returned (.bool true) ∧ w' = w := by
  have g1 := typeOf
  have g2 := eql
  go_enter Tryr.func45, Tryr.ntmps45
  go_wp2
  go_ret
  exact ⟨rfl, rfl⟩
theorem fromType_uint16 (cv : Value) (w : World) : Calls Tryr.prog 37 #[cv, .iface 89 (.pointer (some ⟨0, 31, none⟩))] w fun e w' => e = .returned (.agg #[.iface 89 (.pointer (some ⟨0, 31, none⟩)), .int .u64 9, .pointer none, .pointer none, .bool false, .bool false, .bool false, .bool true, .bool false]) ∧ w' = w.alloc (.cells #[.iface 89 (.pointer (some ⟨0, 31, none⟩)), .int .u64 9, .pointer none, .pointer none, .bool false, .bool false, .bool false, .bool true, .bool false] 49) := by
  have g := kind_uint16
  go_enter Tryr.func37, Tryr.ntmps37
  go_wp2_with fail
  refine (builtin_uint16 _).mono ?_
  rintro e w1 ⟨rfl, rfl⟩
  go_wp2
  go_returns
  exact ⟨rfl, rfl⟩
theorem builtin_uint32 (w : World) : Calls Tryr.prog 45 #[.iface 89 (.pointer (some ⟨0, 32, none⟩))] w fun e w' => e = .returned (.bool true) ∧ w' = w := by
  have g1 := typeOf
  have g2 := eql
  go_enter Tryr.func45, Tryr.ntmps45
  go_wp2
  go_ret
  exact ⟨rfl, rfl⟩
theorem fromType_uint32 (cv : Value) (w : World) : Calls Tryr.prog 37 #[cv, .iface 89 (.pointer (some ⟨0, 32, none⟩))] w fun e w' => e = .returned (.agg #[.iface 89 (.pointer (some ⟨0, 32, none⟩)), .int .u64 10, .pointer none, .pointer none, .bool false, .bool false, .bool false, .bool true, .bool false]) ∧ w' = w.alloc (.cells #[.iface 89 (.pointer (some ⟨0, 32, none⟩)), .int .u64 10, .pointer none, .pointer none, .bool false, .bool false, .bool false, .bool true, .bool false] 49) := by
  have g := kind_uint32
  go_enter Tryr.func37, Tryr.ntmps37
  go_wp2_with fail
  refine (builtin_uint32 _).mono ?_
  rintro e w1 ⟨rfl, rfl⟩
  go_wp2
  go_returns
  exact ⟨rfl, rfl⟩
theorem builtin_uint64 (w : World) : Calls Tryr.prog 45 #[.iface 89 (.pointer (some ⟨0, 33, none⟩))] w fun e w' => e = .returned (.bool true) ∧ w' = w := by
  have g1 := typeOf
  have g2 := eql
  go_enter Tryr.func45, Tryr.ntmps45
  go_wp2
  go_ret
  exact ⟨rfl, rfl⟩
theorem fromType_uint64 (cv : Value) (w : World) : Calls Tryr.prog 37 #[cv, .iface 89 (.pointer (some ⟨0, 33, none⟩))] w fun e w' => e = .returned (.agg #[.iface 89 (.pointer (some ⟨0, 33, none⟩)), .int .u64 11, .pointer none, .pointer none, .bool false, .bool false, .bool false, .bool true, .bool false]) ∧ w' = w.alloc (.cells #[.iface 89 (.pointer (some ⟨0, 33, none⟩)), .int .u64 11, .pointer none, .pointer none, .bool false, .bool false, .bool false, .bool true, .bool false] 49) := by
  have g := kind_uint64
  go_enter Tryr.func37, Tryr.ntmps37
  go_wp2_with fail
  refine (builtin_uint64 _).mono ?_
  rintro e w1 ⟨rfl, rfl⟩
  go_wp2
  go_returns
  exact ⟨rfl, rfl⟩
theorem builtin_uintptr (w : World) : Calls Tryr.prog 45 #[.iface 89 (.pointer (some ⟨0, 12, none⟩))] w fun e w' => e = .returned (.bool true) ∧ w' = w := by
  have g1 := typeOf
  have g2 := eql
  go_enter Tryr.func45, Tryr.ntmps45
  go_wp2
  go_ret
  exact ⟨rfl, rfl⟩
theorem fromType_uintptr (cv : Value) (w : World) : Calls Tryr.prog 37 #[cv, .iface 89 (.pointer (some ⟨0, 12, none⟩))] w fun e w' => e = .returned (.agg #[.iface 89 (.pointer (some ⟨0, 12, none⟩)), .int .u64 12, .pointer none, .pointer none, .bool false, .bool false, .bool false, .bool true, .bool false]) ∧ w' = w.alloc (.cells #[.iface 89 (.pointer (some ⟨0, 12, none⟩)), .int .u64 12, .pointer none, .pointer none, .bool false, .bool false, .bool false, .bool true, .bool false] 49) := by
  have g := kind_uintptr
  go_enter Tryr.func37, Tryr.ntmps37
  go_wp2_with fail
  refine (builtin_uintptr _).mono ?_
  rintro e w1 ⟨rfl, rfl⟩
  go_wp2
  go_returns
  exact ⟨rfl, rfl⟩
theorem builtin_float32 (w : World) : Calls Tryr.prog 46 #[.iface 89 (.pointer (some ⟨0, 26, none⟩))] w fun e w' => e = .returned (.bool true) ∧ w' = w := by
  have g1 := typeOf
  have g2 := eql
  go_enter Tryr.func46, Tryr.ntmps46
  go_wp2
  go_ret
  exact ⟨rfl, rfl⟩
theorem fromType_float32 (cv : Value) (w : World) : Calls Tryr.prog 37 #[cv, .iface 89 (.pointer (some ⟨0, 26, none⟩))] w fun e w' => e = .returned (.agg #[.iface 89 (.pointer (some ⟨0, 26, none⟩)), .int .u64 13, .pointer none, .pointer none, .bool false, .bool false, .bool false, .bool false, .bool true]) ∧ w' = w.alloc (.cells #[.iface 89 (.pointer (some ⟨0, 26, none⟩)), .int .u64 13, .pointer none, .pointer none, .bool false, .bool false, .bool false, .bool false, .bool true] 49) := by
  have g := kind_float32
  go_enter Tryr.func37, Tryr.ntmps37
  go_wp2_with fail
  refine (builtin_float32 _).mono ?_
  rintro e w1 ⟨rfl, rfl⟩
  go_wp2
  go_returns
  exact ⟨rfl, rfl⟩
theorem builtin_float64 (w : World) : Calls Tryr.prog 46 #[.iface 89 (.pointer (some ⟨0, 27, none⟩))] w fun e w' => e = .returned (.bool true) ∧ w' = w := by
  have g1 := typeOf
  have g2 := eql
  go_enter Tryr.func46, Tryr.ntmps46
  go_wp2
  go_ret
  exact ⟨rfl, rfl⟩
theorem fromType_float64 (cv : Value) (w : World) : Calls Tryr.prog 37 #[cv, .iface 89 (.pointer (some ⟨0, 27, none⟩))] w fun e w' => e = .returned (.agg #[.iface 89 (.pointer (some ⟨0, 27, none⟩)), .int .u64 14, .pointer none, .pointer none, .bool false, .bool false, .bool false, .bool false, .bool true]) ∧ w' = w.alloc (.cells #[.iface 89 (.pointer (some ⟨0, 27, none⟩)), .int .u64 14, .pointer none, .pointer none, .bool false, .bool false, .bool false, .bool false, .bool true] 49) := by
  have g := kind_float64
  go_enter Tryr.func37, Tryr.ntmps37
  go_wp2_with fail
  refine (builtin_float64 _).mono ?_
  rintro e w1 ⟨rfl, rfl⟩
  go_wp2
  go_returns
  exact ⟨rfl, rfl⟩
theorem cacheNat_int (cv : Value) (w : World) : Calls Tryr.prog 48 #[cv, .iface 3 (.int .i64 0)] w fun e w' => e = .returned (.agg #[.iface 89 (.pointer (some ⟨0, 3, none⟩)), .int .u64 2, .pointer none, .pointer none, .bool false, .bool false, .bool false, .bool true, .bool false]) ∧ w' = ((w.alloc (.cells #[.iface 89 (.pointer (some ⟨0, 3, none⟩)), .int .u64 2, .pointer none, .pointer none, .bool false, .bool false, .bool false, .bool true, .bool false] 49)).alloc (.cells #[.iface 89 (.pointer (some ⟨0, 3, none⟩)), .int .u64 2, .pointer none, .pointer none, .bool false, .bool false, .bool false, .bool true, .bool false] 49)) := by
  have g := typeOf
  go_enter Tryr.func48, Tryr.ntmps48
  go_wp2_with fail
  refine (fromType_int _ _).mono ?_
  rintro e w1 ⟨rfl, rfl⟩
  go_wp2
  go_returns
  exact ⟨rfl, rfl⟩
theorem natureOf_int (w : World) : Calls Tryr.prog 40 #[.iface 3 (.int .i64 0)] w fun e w' => e = .returned (.agg #[.iface 89 (.pointer (some ⟨0, 3, none⟩)), .int .u64 2, .pointer none, .pointer none, .bool false, .bool false, .bool false, .bool true, .bool false]) ∧ w' = (((w.alloc (.cells #[.iface 89 (.pointer (some ⟨0, 3, none⟩)), .int .u64 2, .pointer none, .pointer none, .bool false, .bool false, .bool false, .bool true, .bool false] 49)).alloc (.cells #[.iface 89 (.pointer (some ⟨0, 3, none⟩)), .int .u64 2, .pointer none, .pointer none, .bool false, .bool false, .bool false, .bool true, .bool false] 49)).alloc (.cells #[.iface 89 (.pointer (some ⟨0, 3, none⟩)), .int .u64 2, .pointer none, .pointer none, .bool false, .bool false, .bool false, .bool true, .bool false] 49)) := by
  go_enter Tryr.func40, Tryr.ntmps40
  go_wp2_with fail
  refine (cacheNat_int _ _).mono ?_
  rintro e w1 ⟨rfl, rfl⟩
  go_wp2
  go_returns
  exact ⟨rfl, rfl⟩
theorem nat_int (w : World) : Calls Tryr.prog 9 #[] w fun e w' => e = .returned (.agg #[.iface 89 (.pointer (some ⟨0, 3, none⟩)), .int .u64 2, .pointer none, .pointer none, .bool false, .bool false, .bool false, .bool true, .bool false]) ∧ w' = ((((w.alloc (.cells #[.iface 89 (.pointer (some ⟨0, 3, none⟩)), .int .u64 2, .pointer none, .pointer none, .bool false, .bool false, .bool false, .bool true, .bool false] 49)).alloc (.cells #[.iface 89 (.pointer (some ⟨0, 3, none⟩)), .int .u64 2, .pointer none, .pointer none, .bool false, .bool false, .bool false, .bool true, .bool false] 49)).alloc (.cells #[.iface 89 (.pointer (some ⟨0, 3, none⟩)), .int .u64 2, .pointer none, .pointer none, .bool false, .bool false, .bool false, .bool true, .bool false] 49)).alloc (.cells #[.iface 89 (.pointer (some ⟨0, 3, none⟩)), .int .u64 2, .pointer none, .pointer none, .bool false, .bool false, .bool false, .bool true, .bool false] 49)) := by
  go_enter Tryr.func9, Tryr.ntmps9
  go_wp2_with fail
  refine (natureOf_int _).mono ?_
  rintro e w1 ⟨rfl, rfl⟩
  go_wp2
  go_returns
  exact ⟨rfl, rfl⟩
theorem code_int (w : World) : Calls Tryr.prog 5 #[.int .i64 0] w fun e w' => e = .returned (.agg #[.iface 89 (.pointer (some ⟨0, 3, none⟩)), .int .u64 2, .pointer none, .pointer none, .bool false, .bool false, .bool false, .bool true, .bool false]) ∧ w' = (((((w.alloc (.cells #[.iface 89 (.pointer (some ⟨0, 3, none⟩)), .int .u64 2, .pointer none, .pointer none, .bool false, .bool false, .bool false, .bool true, .bool false] 49)).alloc (.cells #[.iface 89 (.pointer (some ⟨0, 3, none⟩)), .int .u64 2, .pointer none, .pointer none, .bool false, .bool false, .bool false, .bool true, .bool false] 49)).alloc (.cells #[.iface 89 (.pointer (some ⟨0, 3, none⟩)), .int .u64 2, .pointer none, .pointer none, .bool false, .bool false, .bool false, .bool true, .bool false] 49)).alloc (.cells #[.iface 89 (.pointer (some ⟨0, 3, none⟩)), .int .u64 2, .pointer none, .pointer none, .bool false, .bool false, .bool false, .bool true, .bool false] 49)).alloc (.cells #[.iface 89 (.pointer (some ⟨0, 3, none⟩)), .int .u64 2, .pointer none, .pointer none, .bool false, .bool false, .bool false, .bool true, .bool false] 49)) := by
  go_enter Tryr.func5, Tryr.ntmps5
  go_wp2_with fail
  refine (nat_int _).mono ?_
  rintro e w1 ⟨rfl, rfl⟩
  go_wp2
  go_returns
  exact ⟨rfl, rfl⟩
theorem cacheNat_int8 (cv : Value) (w : World) : Calls Tryr.prog 48 #[cv, .iface 29 (.int .i8 0)] w fun e w' => e = .returned (.agg #[.iface 89 (.pointer (some ⟨0, 29, none⟩)), .int .u64 3, .pointer none, .pointer none, .bool false, .bool false, .bool false, .bool true, .bool false]) ∧ w' = ((w.alloc (.cells #[.iface 89 (.pointer (some ⟨0, 29, none⟩)), .int .u64 3, .pointer none, .pointer none, .bool false, .bool false, .bool false, .bool true, .bool false] 49)).alloc (.cells #[.iface 89 (.pointer (some ⟨0, 29, none⟩)), .int .u64 3, .pointer none, .pointer none, .bool false, .bool false, .bool false, .bool true, .bool false] 49)) := by
  have g := typeOf
  go_enter Tryr.func48, Tryr.ntmps48
  go_wp2_with fail
  refine (fromType_int8 _ _).mono ?_
  rintro e w1 ⟨rfl, rfl⟩
  go_wp2
  go_returns
  exact ⟨rfl, rfl⟩
theorem natureOf_int8 (w : World) : Calls Tryr.prog 40 #[.iface 29 (.int .i8 0)] w fun e w' => e = .returned (.agg #[.iface 89 (.pointer (some ⟨0, 29, none⟩)), .int .u64 3, .pointer none, .pointer none, .bool false, .bool false, .bool false, .bool true, .bool false]) ∧ w' = (((w.alloc (.cells #[.iface 89 (.pointer (some ⟨0, 29, none⟩)), .int .u64 3, .pointer none, .pointer none, .bool false, .bool false, .bool false, .bool true, .bool false] 49)).alloc (.cells #[.iface 89 (.pointer (some ⟨0, 29, none⟩)), .int .u64 3, .pointer none, .pointer none, .bool false, .bool false, .bool false, .bool true, .bool false] 49)).alloc (.cells #[.iface 89 (.pointer (some ⟨0, 29, none⟩)), .int .u64 3, .pointer none, .pointer none, .bool false, .bool false, .bool false, .bool true, .bool false] 49)) := by
  go_enter Tryr.func40, Tryr.ntmps40
  go_wp2_with fail
  refine (cacheNat_int8 _ _).mono ?_
  rintro e w1 ⟨rfl, rfl⟩
  go_wp2
  go_returns
  exact ⟨rfl, rfl⟩
theorem nat_int8 (w : World) : Calls Tryr.prog 10 #[] w fun e w' => e = .returned (.agg #[.iface 89 (.pointer (some ⟨0, 29, none⟩)), .int .u64 3, .pointer none, .pointer none, .bool false, .bool false, .bool false, .bool true, .bool false]) ∧ w' = ((((w.alloc (.cells #[.iface 89 (.pointer (some ⟨0, 29, none⟩)), .int .u64 3, .pointer none, .pointer none, .bool false, .bool false, .bool false, .bool true, .bool false] 49)).alloc (.cells #[.iface 89 (.pointer (some ⟨0, 29, none⟩)), .int .u64 3, .pointer none, .pointer none, .bool false, .bool false, .bool false, .bool true, .bool false] 49)).alloc (.cells #[.iface 89 (.pointer (some ⟨0, 29, none⟩)), .int .u64 3, .pointer none, .pointer none, .bool false, .bool false, .bool false, .bool true, .bool false] 49)).alloc (.cells #[.iface 89 (.pointer (some ⟨0, 29, none⟩)), .int .u64 3, .pointer none, .pointer none, .bool false, .bool false, .bool false, .bool true, .bool false] 49)) := by
  go_enter Tryr.func10, Tryr.ntmps10
  go_wp2_with fail
  refine (natureOf_int8 _).mono ?_
  rintro e w1 ⟨rfl, rfl⟩
  go_wp2
  go_returns
  exact ⟨rfl, rfl⟩
theorem code_int8 (w : World) : Calls Tryr.prog 5 #[.int .i64 1] w fun e w' => e = .returned (.agg #[.iface 89 (.pointer (some ⟨0, 29, none⟩)), .int .u64 3, .pointer none, .pointer none, .bool false, .bool false, .bool false, .bool true, .bool false]) ∧ w' = (((((w.alloc (.cells #[.iface 89 (.pointer (some ⟨0, 29, none⟩)), .int .u64 3, .pointer none, .pointer none, .bool false, .bool false, .bool false, .bool true, .bool false] 49)).alloc (.cells #[.iface 89 (.pointer (some ⟨0, 29, none⟩)), .int .u64 3, .pointer none, .pointer none, .bool false, .bool false, .bool false, .bool true, .bool false] 49)).alloc (.cells #[.iface 89 (.pointer (some ⟨0, 29, none⟩)), .int .u64 3, .pointer none, .pointer none, .bool false, .bool false, .bool false, .bool true, .bool false] 49)).alloc (.cells #[.iface 89 (.pointer (some ⟨0, 29, none⟩)), .int .u64 3, .pointer none, .pointer none, .bool false, .bool false, .bool false, .bool true, .bool false] 49)).alloc (.cells #[.iface 89 (.pointer (some ⟨0, 29, none⟩)), .int .u64 3, .pointer none, .pointer none, .bool false, .bool false, .bool false, .bool true, .bool false] 49)) := by
  go_enter Tryr.func5, Tryr.ntmps5
  go_wp2_with fail
  refine (nat_int8 _).mono ?_
  rintro e w1 ⟨rfl, rfl⟩
  go_wp2
  go_returns
  exact ⟨rfl, rfl⟩
theorem cacheNat_int16 (cv : Value) (w : World) : Calls Tryr.prog 48 #[cv, .iface 28 (.int .i16 0)] w fun e w' => e = .returned (.agg #[.iface 89 (.pointer (some ⟨0, 28, none⟩)), .int .u64 4, .pointer none, .pointer none, .bool false, .bool false, .bool false, .bool true, .bool false]) ∧ w' = ((w.alloc (.cells #[.iface 89 (.pointer (some ⟨0, 28, none⟩)), .int .u64 4, .pointer none, .pointer none, .bool false, .bool false, .bool false, .bool true, .bool false] 49)).alloc (.cells #[.iface 89 (.pointer (some ⟨0, 28, none⟩)), .int .u64 4, .pointer none, .pointer none, .bool false, .bool false, .bool false, .bool true, .bool false] 49)) := by
  have g := typeOf
  go_enter Tryr.func48, Tryr.ntmps48
  go_wp2_with fail
  refine (fromType_int16 _ _).mono ?_
  rintro e w1 ⟨rfl, rfl⟩
  go_wp2
  go_returns
  exact ⟨rfl, rfl⟩
theorem natureOf_int16 (w : World) : Calls Tryr.prog 40 #[.iface 28 (.int .i16 0)] w fun e w' => e = .returned (.agg #[.iface 89 (.pointer (some ⟨0, 28, none⟩)), .int .u64 4, .pointer none, .pointer none, .bool false, .bool false, .bool false, .bool true, .bool false]) ∧ w' = (((w.alloc (.cells #[.iface 89 (.pointer (some ⟨0, 28, none⟩)), .int .u64 4, .pointer none, .pointer none, .bool false, .bool false, .bool false, .bool true, .bool false] 49)).alloc (.cells #[.iface 89 (.pointer (some ⟨0, 28, none⟩)), .int .u64 4, .pointer none, .pointer none, .bool false, .bool false, .bool false, .bool true, .bool false] 49)).alloc (.cells #[.iface 89 (.pointer (some ⟨0, 28, none⟩)), .int .u64 4, .pointer none, .pointer none, .bool false, .bool false, .bool false, .bool true, .bool false] 49)) := by
  go_enter Tryr.func40, Tryr.ntmps40
  go_wp2_with fail
  refine (cacheNat_int16 _ _).mono ?_
  rintro e w1 ⟨rfl, rfl⟩
  go_wp2
  go_returns
  exact ⟨rfl, rfl⟩
theorem nat_int16 (w : World) : Calls Tryr.prog 11 #[] w fun e w' => e = .returned (.agg #[.iface 89 (.pointer (some ⟨0, 28, none⟩)), .int .u64 4, .pointer none, .pointer none, .bool false, .bool false, .bool false, .bool true, .bool false]) ∧ w' = ((((w.alloc (.cells #[.iface 89 (.pointer (some ⟨0, 28, none⟩)), .int .u64 4, .pointer none, .pointer none, .bool false, .bool false, .bool false, .bool true, .bool false] 49)).alloc (.cells #[.iface 89 (.pointer (some ⟨0, 28, none⟩)), .int .u64 4, .pointer none, .pointer none, .bool false, .bool false, .bool false, .bool true, .bool false] 49)).alloc (.cells #[.iface 89 (.pointer (some ⟨0, 28, none⟩)), .int .u64 4, .pointer none, .pointer none, .bool false, .bool false, .bool false, .bool true, .bool false] 49)).alloc (.cells #[.iface 89 (.pointer (some ⟨0, 28, none⟩)), .int .u64 4, .pointer none, .pointer none, .bool false, .bool false, .bool false, .bool true, .bool false] 49)) := by
  go_enter Tryr.func11, Tryr.ntmps11
  go_wp2_with fail
  refine (natureOf_int16 _).mono ?_
  rintro e w1 ⟨rfl, rfl⟩
  go_wp2
  go_returns
  exact ⟨rfl, rfl⟩
theorem code_int16 (w : World) : Calls Tryr.prog 5 #[.int .i64 2] w fun e w' => e = .returned (.agg #[.iface 89 (.pointer (some ⟨0, 28, none⟩)), .int .u64 4, .pointer none, .pointer none, .bool false, .bool false, .bool false, .bool true, .bool false]) ∧ w' = (((((w.alloc (.cells #[.iface 89 (.pointer (some ⟨0, 28, none⟩)), .int .u64 4, .pointer none, .pointer none, .bool false, .bool false, .bool false, .bool true, .bool false] 49)).alloc (.cells #[.iface 89 (.pointer (some ⟨0, 28, none⟩)), .int .u64 4, .pointer none, .pointer none, .bool false, .bool false, .bool false, .bool true, .bool false] 49)).alloc (.cells #[.iface 89 (.pointer (some ⟨0, 28, none⟩)), .int .u64 4, .pointer none, .pointer none, .bool false, .bool false, .bool false, .bool true, .bool false] 49)).alloc (.cells #[.iface 89 (.pointer (some ⟨0, 28, none⟩)), .int .u64 4, .pointer none, .pointer none, .bool false, .bool false, .bool false, .bool true, .bool false] 49)).alloc (.cells #[.iface 89 (.pointer (some ⟨0, 28, none⟩)), .int .u64 4, .pointer none, .pointer none, .bool false, .bool false, .bool false, .bool true, .bool false] 49)) := by
  go_enter Tryr.func5, Tryr.ntmps5
  go_wp2_with fail
  refine (nat_int16 _).mono ?_
  rintro e w1 ⟨rfl, rfl⟩
  go_wp2
  go_returns
  exact ⟨rfl, rfl⟩
theorem cacheNat_int32 (cv : Value) (w : World) : Calls Tryr.prog 48 #[cv, .iface 21 (.int .i32 0)] w fun e w' => e = .returned (.agg #[.iface 89 (.pointer (some ⟨0, 21, none⟩)), .int .u64 5, .pointer none, .pointer none, .bool false, .bool false, .bool false, .bool true, .bool false]) ∧ w' = ((w.alloc (.cells #[.iface 89 (.pointer (some ⟨0, 21, none⟩)), .int .u64 5, .pointer none, .pointer none, .bool false, .bool false, .bool false, .bool true, .bool false] 49)).alloc (.cells #[.iface 89 (.pointer (some ⟨0, 21, none⟩)), .int .u64 5, .pointer none, .pointer none, .bool false, .bool false, .bool false, .bool true, .bool false] 49)) := by
  have g := typeOf
  go_enter Tryr.func48, Tryr.ntmps48
  go_wp2_with fail
  refine (fromType_int32 _ _).mono ?_
  rintro e w1 ⟨rfl, rfl⟩
  go_wp2
  go_returns
  exact ⟨rfl, rfl⟩
theorem natureOf_int32 (w : World) : Calls Tryr.prog 40 #[.iface 21 (.int .i32 0)] w fun e w' => e = .returned (.agg #[.iface 89 (.pointer (some ⟨0, 21, none⟩)), .int .u64 5, .pointer none, .pointer none, .bool false, .bool false, .bool false, .bool true, .bool false]) ∧ w' = (((w.alloc (.cells #[.iface 89 (.pointer (some ⟨0, 21, none⟩)), .int .u64 5, .pointer none, .pointer none, .bool false, .bool false, .bool false, .bool true, .bool false] 49)).alloc (.cells #[.iface 89 (.pointer (some ⟨0, 21, none⟩)), .int .u64 5, .pointer none, .pointer none, .bool false, .bool false, .bool false, .bool true, .bool false] 49)).alloc (.cells #[.iface 89 (.pointer (some ⟨0, 21, none⟩)), .int .u64 5, .pointer none, .pointer none, .bool false, .bool false, .bool false, .bool true, .bool false] 49)) := by
  go_enter Tryr.func40, Tryr.ntmps40
  go_wp2_with fail
  refine (cacheNat_int32 _ _).mono ?_
  rintro e w1 ⟨rfl, rfl⟩
  go_wp2
  go_returns
  exact ⟨rfl, rfl⟩
theorem nat_int32 (w : World) : Calls Tryr.prog 12 #[] w fun e w' => e = .returned (.agg #[.iface 89 (.pointer (some ⟨0, 21, none⟩)), .int .u64 5, .pointer none, .pointer none, .bool false, .bool false, .bool false, .bool true, .bool false]) ∧ w' = ((((w.alloc (.cells #[.iface 89 (.pointer (some ⟨0, 21, none⟩)), .int .u64 5, .pointer none, .pointer none, .bool false, .bool false, .bool false, .bool true, .bool false] 49)).alloc (.cells #[.iface 89 (.pointer (some ⟨0, 21, none⟩)), .int .u64 5, .pointer none, .pointer none, .bool false, .bool false, .bool false, .bool true, .bool false] 49)).alloc (.cells #[.iface 89 (.pointer (some ⟨0, 21, none⟩)), .int .u64 5, .pointer none, .pointer none, .bool false, .bool false, .bool false, .bool true, .bool false] 49)).alloc (.cells #[.iface 89 (.pointer (some ⟨0, 21, none⟩)), .int .u64 5, .pointer none, .pointer none, .bool false, .bool false, .bool false, .bool true, .bool false] 49)) := by
  go_enter Tryr.func12, Tryr.ntmps12
  go_wp2_with fail
  refine (natureOf_int32 _).mono ?_
  rintro e w1 ⟨rfl, rfl⟩
  go_wp2
  go_returns
  exact ⟨rfl, rfl⟩
theorem code_int32 (w : World) : Calls Tryr.prog 5 #[.int .i64 3] w fun e w' => e = .returned (.agg #[.iface 89 (.pointer (some ⟨0, 21, none⟩)), .int .u64 5, .pointer none, .pointer none, .bool false, .bool false, .bool false, .bool true, .bool false]) ∧ w' = (((((w.alloc (.cells #[.iface 89 (.pointer (some ⟨0, 21, none⟩)), .int .u64 5, .pointer none, .pointer none, .bool false, .bool false, .bool false, .bool true, .bool false] 49)).alloc (.cells #[.iface 89 (.pointer (some ⟨0, 21, none⟩)), .int .u64 5, .pointer none, .pointer none, .bool false, .bool false, .bool false, .bool true, .bool false] 49)).alloc (.cells #[.iface 89 (.pointer (some ⟨0, 21, none⟩)), .int .u64 5, .pointer none, .pointer none, .bool false, .bool false, .bool false, .bool true, .bool false] 49)).alloc (.cells #[.iface 89 (.pointer (some ⟨0, 21, none⟩)), .int .u64 5, .pointer none, .pointer none, .bool false, .bool false, .bool false, .bool true, .bool false] 49)).alloc (.cells #[.iface 89 (.pointer (some ⟨0, 21, none⟩)), .int .u64 5, .pointer none, .pointer none, .bool false, .bool false, .bool false, .bool true, .bool false] 49)) := by
  go_enter Tryr.func5, Tryr.ntmps5
  go_wp2_with fail
  refine (nat_int32 _).mono ?_
  rintro e w1 ⟨rfl, rfl⟩
  go_wp2
  go_returns
  exact ⟨rfl, rfl⟩
theorem cacheNat_int64 (cv : Value) (w : World) : Calls Tryr.prog 48 #[cv, .iface 2 (.int .i64 0)] w fun e w' => e = .returned (.agg #[.iface 89 (.pointer (some ⟨0, 2, none⟩)), .int .u64 6, .pointer none, .pointer none, .bool false, .bool false, .bool false, .bool true, .bool false]) ∧ w' = ((w.alloc (.cells #[.iface 89 (.pointer (some ⟨0, 2, none⟩)), .int .u64 6, .pointer none, .pointer none, .bool false, .bool false, .bool false, .bool true, .bool false] 49)).alloc (.cells #[.iface 89 (.pointer (some ⟨0, 2, none⟩)), .int .u64 6, .pointer none, .pointer none, .bool false, .bool false, .bool false, .bool true, .bool false] 49)) := by
  have g := typeOf
  go_enter Tryr.func48, Tryr.ntmps48
  go_wp2_with fail
  refine (fromType_int64 _ _).mono ?_
  rintro e w1 ⟨rfl, rfl⟩
  go_wp2
  go_returns
  exact ⟨rfl, rfl⟩
theorem natureOf_int64 (w : World) : Calls Tryr.prog 40 #[.iface 2 (.int .i64 0)] w fun e w' => e = .returned (.agg #[.iface 89 (.pointer (some ⟨0, 2, none⟩)), .int .u64 6, .pointer none, .pointer none, .bool false, .bool false, .bool false, .bool true, .bool false]) ∧ w' = (((w.alloc (.cells #[.iface 89 (.pointer (some ⟨0, 2, none⟩)), .int .u64 6, .pointer none, .pointer none, .bool false, .bool false, .bool false, .bool true, .bool false] 49)).alloc (.cells #[.iface 89 (.pointer (some ⟨0, 2, none⟩)), .int .u64 6, .pointer none, .pointer none, .bool false, .bool false, .bool false, .bool true, .bool false] 49)).alloc (.cells #[.iface 89 (.pointer (some ⟨0, 2, none⟩)), .int .u64 6, .pointer none, .pointer none, .bool false, .bool false, .bool false, .bool true, .bool false] 49)) := by
  go_enter Tryr.func40, Tryr.ntmps40
  go_wp2_with fail
  refine (cacheNat_int64 _ _).mono ?_
  rintro e w1 ⟨rfl, rfl⟩
  go_wp2
  go_returns
  exact ⟨rfl, rfl⟩
theorem nat_int64 (w : World) : Calls Tryr.prog 13 #[] w fun e w' => e = .returned (.agg #[.iface 89 (.pointer (some ⟨0, 2, none⟩)), .int .u64 6, .pointer none, .pointer none, .bool false, .bool false, .bool false, .bool true, .bool false]) ∧ w' = ((((w.alloc (.cells #[.iface 89 (.pointer (some ⟨0, 2, none⟩)), .int .u64 6, .pointer none, .pointer none, .bool false, .bool false, .bool false, .bool true, .bool false] 49)).alloc (.cells #[.iface 89 (.pointer (some ⟨0, 2, none⟩)), .int .u64 6, .pointer none, .pointer none, .bool false, .bool false, .bool false, .bool true, .bool false] 49)).alloc (.cells #[.iface 89 (.pointer (some ⟨0, 2, none⟩)), .int .u64 6, .pointer none, .pointer none, .bool false, .bool false, .bool false, .bool true, .bool false] 49)).alloc (.cells #[.iface 89 (.pointer (some ⟨0, 2, none⟩)), .int .u64 6, .pointer none, .pointer none, .bool false, .bool false, .bool false, .bool true, .bool false] 49)) := by
  go_enter Tryr.func13, Tryr.ntmps13
  go_wp2_with fail
  refine (natureOf_int64 _).mono ?_
  rintro e w1 ⟨rfl, rfl⟩
  go_wp2
  go_returns
  exact ⟨rfl, rfl⟩
theorem code_int64 (w : World) : Calls Tryr.prog 5 #[.int .i64 4] w fun e w' => e = .returned (.agg #[.iface 89 (.pointer (some ⟨0, 2, none⟩)), .int .u64 6, .pointer none, .pointer none, .bool false, .bool false, .bool false, .bool true, .bool false]) ∧ w' = (((((w.alloc (.cells #[.iface 89 (.pointer (some ⟨0, 2, none⟩)), .int .u64 6, .pointer none, .pointer none, .bool false, .bool false, .bool false, .bool true, .bool false] 49)).alloc (.cells #[.iface 89 (.pointer (some ⟨0, 2, none⟩)), .int .u64 6, .pointer none, .pointer none, .bool false, .bool false, .bool false, .bool true, .bool false] 49)).alloc (.cells #[.iface 89 (.pointer (some ⟨0, 2, none⟩)), .int .u64 6, .pointer none, .pointer none, .bool false, .bool false, .bool false, .bool true, .bool false] 49)).alloc (.cells #[.iface 89 (.pointer (some ⟨0, 2, none⟩)), .int .u64 6, .pointer none, .pointer none, .bool false, .bool false, .bool false, .bool true, .bool false] 49)).alloc (.cells #[.iface 89 (.pointer (some ⟨0, 2, none⟩)), .int .u64 6, .pointer none, .pointer none, .bool false, .bool false, .bool false, .bool true, .bool false] 49)) := by
  go_enter Tryr.func5, Tryr.ntmps5
  go_wp2_with fail
  refine (nat_int64 _).mono ?_
  rintro e w1 ⟨rfl, rfl⟩
  go_wp2
  go_returns
  exact ⟨rfl, rfl⟩
theorem cacheNat_uint (cv : Value) (w : World) : Calls Tryr.prog 48 #[cv, .iface 30 (.int .u64 0)] w fun e w' => e = .returned (.agg #[.iface 89 (.pointer (some ⟨0, 30, none⟩)), .int .u64 7, .pointer none, .pointer none, .bool false, .bool false, .bool false, .bool true, .bool false]) ∧ w' = ((w.alloc (.cells #[.iface 89 (.pointer (some ⟨0, 30, none⟩)), .int .u64 7, .pointer none, .pointer none, .bool false, .bool false, .bool false, .bool true, .bool false] 49)).alloc (.cells #[.iface 89 (.pointer (some ⟨0, 30, none⟩)), .int .u64 7, .pointer none, .pointer none, .bool false, .bool false, .bool false, .bool true, .bool false] 49)) := by
  have g := typeOf
  go_enter Tryr.func48, Tryr.ntmps48
  go_wp2_with fail
  refine (fromType_uint _ _).mono ?_
  rintro e w1 ⟨rfl, rfl⟩
  go_wp2
  go_returns
  exact ⟨rfl, rfl⟩
theorem natureOf_uint (w : World) : Calls Tryr.prog 40 #[.iface 30 (.int .u64 0)] w fun e w' => e = .returned (.agg #[.iface 89 (.pointer (some ⟨0, 30, none⟩)), .int .u64 7, .pointer none, .pointer none, .bool false, .bool false, .bool false, .bool true, .bool false]) ∧ w' = (((w.alloc (.cells #[.iface 89 (.pointer (some ⟨0, 30, none⟩)), .int .u64 7, .pointer none, .pointer none, .bool false, .bool false, .bool false, .bool true, .bool false] 49)).alloc (.cells #[.iface 89 (.pointer (some ⟨0, 30, none⟩)), .int .u64 7, .pointer none, .pointer none, .bool false, .bool false, .bool false, .bool true, .bool false] 49)).alloc (.cells #[.iface 89 (.pointer (some ⟨0, 30, none⟩)), .int .u64 7, .pointer none, .pointer none, .bool false, .bool false, .bool false, .bool true, .bool false] 49)) := by
  go_enter Tryr.func40, Tryr.ntmps40
  go_wp2_with fail
  refine (cacheNat_uint _ _).mono ?_
  rintro e w1 ⟨rfl, rfl⟩
  go_wp2
  go_returns
  exact ⟨rfl, rfl⟩
theorem nat_uint (w : World) : Calls Tryr.prog 14 #[] w fun e w' => e = .returned (.agg #[.iface 89 (.pointer (some ⟨0, 30, none⟩)), .int .u64 7, .pointer none, .pointer none, .bool false, .bool false, .bool false, .bool true, .bool false]) ∧ w' = ((((w.alloc (.cells #[.iface 89 (.pointer (some ⟨0, 30, none⟩)), .int .u64 7, .pointer none, .pointer none, .bool false, .bool false, .bool false, .bool true, .bool false] 49)).alloc (.cells #[.iface 89 (.pointer (some ⟨0, 30, none⟩)), .int .u64 7, .pointer none, .pointer none, .bool false, .bool false, .bool false, .bool true, .bool false] 49)).alloc (.cells #[.iface 89 (.pointer (some ⟨0, 30, none⟩)), .int .u64 7, .pointer none, .pointer none, .bool false, .bool false, .bool false, .bool true, .bool false] 49)).alloc (.cells #[.iface 89 (.pointer (some ⟨0, 30, none⟩)), .int .u64 7, .pointer none, .pointer none, .bool false, .bool false, .bool false, .bool true, .bool false] 49)) := by
  go_enter Tryr.func14, Tryr.ntmps14
  go_wp2_with fail
  refine (natureOf_uint _).mono ?_
  rintro e w1 ⟨rfl, rfl⟩
  go_wp2
  go_returns
  exact ⟨rfl, rfl⟩
theorem code_uint (w : World) : Calls Tryr.prog 5 #[.int .i64 5] w fun e w' => e = .returned (.agg #[.iface 89 (.pointer (some ⟨0, 30, none⟩)), .int .u64 7, .pointer none, .pointer none, .bool false, .bool false, .bool false, .bool true, .bool false]) ∧ w' = (((((w.alloc (.cells #[.iface 89 (.pointer (some ⟨0, 30, none⟩)), .int .u64 7, .pointer none, .pointer none, .bool false, .bool false, .bool false, .bool true, .bool false] 49)).alloc (.cells #[.iface 89 (.pointer (some ⟨0, 30, none⟩)), .int .u64 7, .pointer none, .pointer none, .bool false, .bool false, .bool false, .bool true, .bool false] 49)).alloc (.cells #[.iface 89 (.pointer (some ⟨0, 30, none⟩)), .int .u64 7, .pointer none, .pointer none, .bool false, .bool false, .bool false, .bool true, .bool false] 49)).alloc (.cells #[.iface 89 (.pointer (some ⟨0, 30, none⟩)), .int .u64 7, .pointer none, .pointer none, .bool false, .bool false, .bool false, .bool true, .bool false] 49)).alloc (.cells #[.iface 89 (.pointer (some ⟨0, 30, none⟩)), .int .u64 7, .pointer none, .pointer none, .bool false, .bool false, .bool false, .bool true, .bool false] 49)) := by
  go_enter Tryr.func5, Tryr.ntmps5
  go_wp2_with fail
  refine (nat_uint _).mono ?_
  rintro e w1 ⟨rfl, rfl⟩
  go_wp2
  go_returns
  exact ⟨rfl, rfl⟩
theorem cacheNat_uint8 (cv : Value) (w : World) : Calls Tryr.prog 48 #[cv, .iface 5 (.int .u8 0)] w fun e w' => e = .returned (.agg #[.iface 89 (.pointer (some ⟨0, 5, none⟩)), .int .u64 8, .pointer none, .pointer none, .bool false, .bool false, .bool false, .bool true, .bool false]) ∧ w' = ((w.alloc (.cells #[.iface 89 (.pointer (some ⟨0, 5, none⟩)), .int .u64 8, .pointer none, .pointer none, .bool false, .bool false, .bool false, .bool true, .bool false] 49)).alloc (.cells #[.iface 89 (.pointer (some ⟨0, 5, none⟩)), .int .u64 8, .pointer none, .pointer none, .bool false, .bool false, .bool false, .bool true, .bool false] 49)) := by
  have g := typeOf
  go_enter Tryr.func48, Tryr.ntmps48
  go_wp2_with fail
  refine (fromType_uint8 _ _).mono ?_
  rintro e w1 ⟨rfl, rfl⟩
  go_wp2
  go_returns
  exact ⟨rfl, rfl⟩
theorem natureOf_uint8 (w : World) : Calls Tryr.prog 40 #[.iface 5 (.int .u8 0)] w fun e w' => e = .returned (.agg #[.iface 89 (.pointer (some ⟨0, 5, none⟩)), .int .u64 8, .pointer none, .pointer none, .bool false, .bool false, .bool false, .bool true, .bool false]) ∧ w' = (((w.alloc (.cells #[.iface 89 (.pointer (some ⟨0, 5, none⟩)), .int .u64 8, .pointer none, .pointer none, .bool false, .bool false, .bool false, .bool true, .bool false] 49)).alloc (.cells #[.iface 89 (.pointer (some ⟨0, 5, none⟩)), .int .u64 8, .pointer none, .pointer none, .bool false, .bool false, .bool false, .bool true, .bool false] 49)).alloc (.cells #[.iface 89 (.pointer (some ⟨0, 5, none⟩)), .int .u64 8, .pointer none, .pointer none, .bool false, .bool false, .bool false, .bool true, .bool false] 49)) := by
  go_enter Tryr.func40, Tryr.ntmps40
  go_wp2_with fail
  refine (cacheNat_uint8 _ _).mono ?_
  rintro e w1 ⟨rfl, rfl⟩
  go_wp2
  go_returns
  exact ⟨rfl, rfl⟩
theorem nat_uint8 (w : World) : Calls Tryr.prog 15 #[] w fun e w' => e = .returned (.agg #[.iface 89 (.pointer (some ⟨0, 5, none⟩)), .int .u64 8, .pointer none, .pointer none, .bool false, .bool false, .bool false, .bool true, .bool false]) ∧ w' = ((((w.alloc (.cells #[.iface 89 (.pointer (some ⟨0, 5, none⟩)), .int .u64 8, .pointer none, .pointer none, .bool false, .bool false, .bool false, .bool true, .bool false] 49)).alloc (.cells #[.iface 89 (.pointer (some ⟨0, 5, none⟩)), .int .u64 8, .pointer none, .pointer none, .bool false, .bool false, .bool false, .bool true, .bool false] 49)).alloc (.cells #[.iface 89 (.pointer (some ⟨0, 5, none⟩)), .int .u64 8, .pointer none, .pointer none, .bool false, .bool false, .bool false, .bool true, .bool false] 49)).alloc (.cells #[.iface 89 (.pointer (some ⟨0, 5, none⟩)), .int .u64 8, .pointer none, .pointer none, .bool false, .bool false, .bool false, .bool true, .bool false] 49)) := by
  go_enter Tryr.func15, Tryr.ntmps15
  go_wp2_with fail
  refine (natureOf_uint8 _).mono ?_
  rintro e w1 ⟨rfl, rfl⟩
  go_wp2
  go_returns
  exact ⟨rfl, rfl⟩
theorem code_uint8 (w : World) : Calls Tryr.prog 5 #[.int .i64 6] w fun e w' => e = .returned (.agg #[.iface 89 (.pointer (some ⟨0, 5, none⟩)), .int .u64 8, .pointer none, .pointer none, .bool false, .bool false, .bool false, .bool true, .bool false]) ∧ w' = (((((w.alloc (.cells #[.iface 89 (.pointer (some ⟨0, 5, none⟩)), .int .u64 8, .pointer none, .pointer none, .bool false, .bool false, .bool false, .bool true, .bool false] 49)).alloc (.cells #[.iface 89 (.pointer (some ⟨0, 5, none⟩)), .int .u64 8, .pointer none, .pointer none, .bool false, .bool false, .bool false, .bool true, .bool false] 49)).alloc (.cells #[.iface 89 (.pointer (some ⟨0, 5, none⟩)), .int .u64 8, .pointer none, .pointer none, .bool false, .bool false, .bool false, .bool true, .bool false] 49)).alloc (.cells #[.iface 89 (.pointer (some ⟨0, 5, none⟩)), .int .u64 8, .pointer none, .pointer none, .bool false, .bool false, .bool false, .bool true, .bool false] 49)).alloc (.cells #[.iface 89 (.pointer (some ⟨0, 5, none⟩)), .int .u64 8, .pointer none, .pointer none, .bool false, .bool false, .bool false, .bool true, .bool false] 49)) := by
  go_enter Tryr.func5, Tryr.ntmps5
  go_wp2_with fail
  refine (nat_uint8 _).mono ?_
  rintro e w1 ⟨rfl, rfl⟩
  go_wp2
  go_returns
  exact ⟨rfl, rfl⟩
theorem cacheNat_uint16 (cv : Value) (w : World) : Calls Tryr.prog 48 #[cv, .iface 31 (.int .u16 0)] w fun e w' => e = .returned (.agg #[.iface 89 (.pointer (some ⟨0, 31, none⟩)), .int .u64 9, .pointer none, .pointer none, .bool false, .bool false, .bool false, .bool true, .bool false]) ∧ w' = ((w.alloc (.cells #[.iface 89 (.pointer (some ⟨0, 31, none⟩)), .int .u64 9, .pointer none, .pointer none, .bool false, .bool false, .bool false, .bool true, .bool false] 49)).alloc (.cells #[.iface 89 (.pointer (some ⟨0, 31, none⟩)), .int .u64 9, .pointer none, .pointer none, .bool false, .bool false, .bool false, .bool true, .bool false] 49)) := by
  have g := typeOf
  go_enter Tryr.func48, Tryr.ntmps48
  go_wp2_with fail
  refine (fromType_uint16 _ _).mono ?_
  rintro e w1 ⟨rfl, rfl⟩
  go_wp2
  go_returns
  exact ⟨rfl, rfl⟩
theorem natureOf_uint16 (w : World) : Calls Tryr.prog 40 #[.iface 31 (.int .u16 0)] w fun e w' => e = .returned (.agg #[.iface 89 (.pointer (some ⟨0, 31, none⟩)), .int .u64 9, .pointer none, .pointer none, .bool false, .bool false, .bool false, .bool true, .bool false]) ∧ w' = (((w.alloc (.cells #[.iface 89 (.pointer (some ⟨0, 31, none⟩)), .int .u64 9, .pointer none, .pointer none, .bool false, .bool false, .bool false, .bool true, .bool false] 49)).alloc (.cells #[.iface 89 (.pointer (some ⟨0, 31, none⟩)), .int .u64 9, .pointer none, .pointer none, .bool false, .bool false, .bool false, .bool true, .bool false] 49)).alloc (.cells #[.iface 89 (.pointer (some ⟨0, 31, none⟩)), .int .u64 9, .pointer none, .pointer none, .bool false, .bool false, .bool false, .bool true, .bool false] 49)) := by
  go_enter Tryr.func40, Tryr.ntmps40
  go_wp2_with fail
  refine (cacheNat_uint16 _ _).mono ?_
  rintro e w1 ⟨rfl, rfl⟩
  go_wp2
  go_returns
  exact ⟨rfl, rfl⟩
theorem nat_uint16 (w : World) : Calls Tryr.prog 16 #[] w fun e w' => e = .returned (.agg #[.iface 89 (.pointer (some ⟨0, 31, none⟩)), .int .u64 9, .pointer none, .pointer none, .bool false, .bool false, .bool false, .bool true, .bool false]) ∧ w' = ((((w.alloc (.cells #[.iface 89 (.pointer (some ⟨0, 31, none⟩)), .int .u64 9, .pointer none, .pointer none, .bool false, .bool false, .bool false, .bool true, .bool false] 49)).alloc (.cells #[.iface 89 (.pointer (some ⟨0, 31, none⟩)), .int .u64 9, .pointer none, .pointer none, .bool false, .bool false, .bool false, .bool true, .bool false] 49)).alloc (.cells #[.iface 89 (.pointer (some ⟨0, 31, none⟩)), .int .u64 9, .pointer none, .pointer none, .bool false, .bool false, .bool false, .bool true, .bool false] 49)).alloc (.cells #[.iface 89 (.pointer (some ⟨0, 31, none⟩)), .int .u64 9, .pointer none, .pointer none, .bool false, .bool false, .bool false, .bool true, .bool false] 49)) := by
  go_enter Tryr.func16, Tryr.ntmps16
  go_wp2_with fail
  refine (natureOf_uint16 _).mono ?_
  rintro e w1 ⟨rfl, rfl⟩
  go_wp2
  go_returns
  exact ⟨rfl, rfl⟩
theorem code_uint16 (w : World) : Calls Tryr.prog 5 #[.int .i64 7] w fun e w' => e = .returned (.agg #[.iface 89 (.pointer (some ⟨0, 31, none⟩)), .int .u64 9, .pointer none, .pointer none, .bool false, .bool false, .bool false, .bool true, .bool false]) ∧ w' = (((((w.alloc (.cells #[.iface 89 (.pointer (some ⟨0, 31, none⟩)), .int .u64 9, .pointer none, .pointer none, .bool false, .bool false, .bool false, .bool true, .bool false] 49)).alloc (.cells #[.iface 89 (.pointer (some ⟨0, 31, none⟩)), .int .u64 9, .pointer none, .pointer none, .bool false, .bool false, .bool false, .bool true, .bool false] 49)).alloc (.cells #[.iface 89 (.pointer (some ⟨0, 31, none⟩)), .int .u64 9, .pointer none, .pointer none, .bool false, .bool false, .bool false, .bool true, .bool false] 49)).alloc (.cells #[.iface 89 (.pointer (some ⟨0, 31, none⟩)), .int .u64 9, .pointer none, .pointer none, .bool false, .bool false, .bool false, .bool true, .bool false] 49)).alloc (.cells #[.iface 89 (.pointer (some ⟨0, 31, none⟩)), .int .u64 9, .pointer none, .pointer none, .bool false, .bool false, .bool false, .bool true, .bool false] 49)) := by
  go_enter Tryr.func5, Tryr.ntmps5
  go_wp2_with fail
  refine (nat_uint16 _).mono ?_
  rintro e w1 ⟨rfl, rfl⟩
  go_wp2
  go_returns
  exact ⟨rfl, rfl⟩
theorem cacheNat_uint32 (cv : Value) (w : World) : Calls Tryr.prog 48 #[cv, .iface 32 (.int .u32 0)] w fun e w' => e = .returned (.agg #[.iface 89 (.pointer (some ⟨0, 32, none⟩)), .int .u64 10, .pointer none, .pointer none, .bool false, .bool false, .bool false, .bool true, .bool false]) ∧ w' = ((w.alloc (.cells #[.iface 89 (.pointer (some ⟨0, 32, none⟩)), .int .u64 10, .pointer none, .pointer none, .bool false, .bool false, .bool false, .bool true, .bool false] 49)).alloc (.cells #[.iface 89 (.pointer (some ⟨0, 32, none⟩)), .int .u64 10, .pointer none, .pointer none, .bool false, .bool false, .bool false, .bool true, .bool false] 49)) := by
  have g := typeOf
  go_enter Tryr.func48, Tryr.ntmps48
  go_wp2_with fail
  refine (fromType_uint32 _ _).mono ?_
  rintro e w1 ⟨rfl, rfl⟩
  go_wp2
  go_returns
  exact ⟨rfl, rfl⟩
theorem natureOf_uint32 (w : World) : Calls Tryr.prog 40 #[.iface 32 (.int .u32 0)] w fun e w' => e = .returned (.agg #[.iface 89 (.pointer (some ⟨0, 32, none⟩)), .int .u64 10, .pointer none, .pointer none, .bool false, .bool false, .bool false, .bool true, .bool false]) ∧ w' = (((w.alloc (.cells #[.iface 89 (.pointer (some ⟨0, 32, none⟩)), .int .u64 10, .pointer none, .pointer none, .bool false, .bool false, .bool false, .bool true, .bool false] 49)).alloc (.cells #[.iface 89 (.pointer (some ⟨0, 32, none⟩)), .int .u64 10, .pointer none, .pointer none, .bool false, .bool false, .bool false, .bool true, .bool false] 49)).alloc (.cells #[.iface 89 (.pointer (some ⟨0, 32, none⟩)), .int .u64 10, .pointer none, .pointer none, .bool false, .bool false, .bool false, .bool true, .bool false] 49)) := by
  go_enter Tryr.func40, Tryr.ntmps40
  go_wp2_with fail
  refine (cacheNat_uint32 _ _).mono ?_
  rintro e w1 ⟨rfl, rfl⟩
  go_wp2
  go_returns
  exact ⟨rfl, rfl⟩
theorem nat_uint32 (w : World) : Calls Tryr.prog 17 #[] w fun e w' => e = .returned (.agg #[.iface 89 (.pointer (some ⟨0, 32, none⟩)), .int .u64 10, .pointer none, .pointer none, .bool false, .bool false, .bool false, .bool true, .bool false]) ∧ w' = ((((w.alloc (.cells #[.iface 89 (.pointer (some ⟨0, 32, none⟩)), .int .u64 10, .pointer none, .pointer none, .bool false, .bool false, .bool false, .bool true, .bool false] 49)).alloc (.cells #[.iface 89 (.pointer (some ⟨0, 32, none⟩)), .int .u64 10, .pointer none, .pointer none, .bool false, .bool false, .bool false, .bool true, .bool false] 49)).alloc (.cells #[.iface 89 (.pointer (some ⟨0, 32, none⟩)), .int .u64 10, .pointer none, .pointer none, .bool false, .bool false, .bool false, .bool true, .bool false] 49)).alloc (.cells #[.iface 89 (.pointer (some ⟨0, 32, none⟩)), .int .u64 10, .pointer none, .pointer none, .bool false, .bool false, .bool false, .bool true, .bool false] 49)) := by
  go_enter Tryr.func17, Tryr.ntmps17
  go_wp2_with fail
  refine (natureOf_uint32 _).mono ?_
  rintro e w1 ⟨rfl, rfl⟩
  go_wp2
  go_returns
  exact ⟨rfl, rfl⟩
theorem code_uint32 (w : World) : Calls Tryr.prog 5 #[.int .i64 8] w fun e w' => e = .returned (.agg #[.iface 89 (.pointer (some ⟨0, 32, none⟩)), .int .u64 10, .pointer none, .pointer none, .bool false, .bool false, .bool false, .bool true, .bool false]) ∧ w' = (((((w.alloc (.cells #[.iface 89 (.pointer (some ⟨0, 32, none⟩)), .int .u64 10, .pointer none, .pointer none, .bool false, .bool false, .bool false, .bool true, .bool false] 49)).alloc (.cells #[.iface 89 (.pointer (some ⟨0, 32, none⟩)), .int .u64 10, .pointer none, .pointer none, .bool false, .bool false, .bool false, .bool true, .bool false] 49)).alloc (.cells #[.iface 89 (.pointer (some ⟨0, 32, none⟩)), .int .u64 10, .pointer none, .pointer none, .bool false, .bool false, .bool false, .bool true, .bool false] 49)).alloc (.cells #[.iface 89 (.pointer (some ⟨0, 32, none⟩)), .int .u64 10, .pointer none, .pointer none, .bool false, .bool false, .bool false, .bool true, .bool false] 49)).alloc (.cells #[.iface 89 (.pointer (some ⟨0, 32, none⟩)), .int .u64 10, .pointer none, .pointer none, .bool false, .bool false, .bool false, .bool true, .bool false] 49)) := by
  go_enter Tryr.func5, Tryr.ntmps5
  go_wp2_with fail
  refine (nat_uint32 _).mono ?_
  rintro e w1 ⟨rfl, rfl⟩
  go_wp2
  go_returns
  exact ⟨rfl, rfl⟩
theorem cacheNat_uint64 (cv : Value) (w : World) : Calls Tryr.prog 48 #[cv, .iface 33 (.int .u64 0)] w fun e w' => e = .returned (.agg #[.iface 89 (.pointer (some ⟨0, 33, none⟩)), .int .u64 11, .pointer none, .pointer none, .bool false, .bool false, .bool false, .bool true, .bool false]) ∧ w' = ((w.alloc (.cells #[.iface 89 (.pointer (some ⟨0, 33, none⟩)), .int .u64 11, .pointer none, .pointer none, .bool false, .bool false, .bool false, .bool true, .bool false] 49)).alloc (.cells #[.iface 89 (.pointer (some ⟨0, 33, none⟩)), .int .u64 11, .pointer none, .pointer none, .bool false, .bool false, .bool false, .bool true, .bool false] 49)) := by
  have g := typeOf
  go_enter Tryr.func48, Tryr.ntmps48
  go_wp2_with fail
  refine (fromType_uint64 _ _).mono ?_
  rintro e w1 ⟨rfl, rfl⟩
  go_wp2
  go_returns
  exact ⟨rfl, rfl⟩
theorem natureOf_uint64 (w : World) : Calls Tryr.prog 40 #[.iface 33 (.int .u64 0)] w fun e w' => e = .returned (.agg #[.iface 89 (.pointer (some ⟨0, 33, none⟩)), .int .u64 11, .pointer none, .pointer none, .bool false, .bool false, .bool false, .bool true, .bool false]) ∧ w' = (((w.alloc (.cells #[.iface 89 (.pointer (some ⟨0, 33, none⟩)), .int .u64 11, .pointer none, .pointer none, .bool false, .bool false, .bool false, .bool true, .bool false] 49)).alloc (.cells #[.iface 89 (.pointer (some ⟨0, 33, none⟩)), .int .u64 11, .pointer none, .pointer none, .bool false, .bool false, .bool false, .bool true, .bool false] 49)).alloc (.cells #[.iface 89 (.pointer (some ⟨0, 33, none⟩)), .int .u64 11, .pointer none, .pointer none, .bool false, .bool false, .bool false, .bool true, .bool false] 49)) := by
  go_enter Tryr.func40, Tryr.ntmps40
  go_wp2_with fail
  refine (cacheNat_uint64 _ _).mono ?_
  rintro e w1 ⟨rfl, rfl⟩
  go_wp2
  go_returns
  exact ⟨rfl, rfl⟩
theorem nat_uint64 (w : World) : Calls Tryr.prog 18 #[] w fun e w' => e = .returned (.agg #[.iface 89 (.pointer (some ⟨0, 33, none⟩)), .int .u64 11, .pointer none, .pointer none, .bool false, .bool false, .bool false, .bool true, .bool false]) ∧ w' = ((((w.alloc (.cells #[.iface 89 (.pointer (some ⟨0, 33, none⟩)), .int .u64 11, .pointer none, .pointer none, .bool false, .bool false, .bool false, .bool true, .bool false] 49)).alloc (.cells #[.iface 89 (.pointer (some ⟨0, 33, none⟩)), .int .u64 11, .pointer none, .pointer none, .bool false, .bool false, .bool false, .bool true, .bool false] 49)).alloc (.cells #[.iface 89 (.pointer (some ⟨0, 33, none⟩)), .int .u64 11, .pointer none, .pointer none, .bool false, .bool false, .bool false, .bool true, .bool false] 49)).alloc (.cells #[.iface 89 (.pointer (some ⟨0, 33, none⟩)), .int .u64 11, .pointer none, .pointer none, .bool false, .bool false, .bool false, .bool true, .bool false] 49)) := by
  go_enter Tryr.func18, Tryr.ntmps18
  go_wp2_with fail
  refine (natureOf_uint64 _).mono ?_
  rintro e w1 ⟨rfl, rfl⟩
  go_wp2
  go_returns
  exact ⟨rfl, rfl⟩
theorem code_uint64 (w : World) : Calls Tryr.prog 5 #[.int .i64 9] w fun e w' => e = .returned (.agg #[.iface 89 (.pointer (some ⟨0, 33, none⟩)), .int .u64 11, .pointer none, .pointer none, .bool false, .bool false, .bool false, .bool true, .bool false]) ∧ w' = (((((w.alloc (.cells #[.iface 89 (.pointer (some ⟨0, 33, none⟩)), .int .u64 11, .pointer none, .pointer none, .bool false, .bool false, .bool false, .bool true, .bool false] 49)).alloc (.cells #[.iface 89 (.pointer (some ⟨0, 33, none⟩)), .int .u64 11, .pointer none, .pointer none, .bool false, .bool false, .bool false, .bool true, .bool false] 49)).alloc (.cells #[.iface 89 (.pointer (some ⟨0, 33, none⟩)), .int .u64 11, .pointer none, .pointer none, .bool false, .bool false, .bool false, .bool true, .bool false] 49)).alloc (.cells #[.iface 89 (.pointer (some ⟨0, 33, none⟩)), .int .u64 11, .pointer none, .pointer none, .bool false, .bool false, .bool false, .bool true, .bool false] 49)).alloc (.cells #[.iface 89 (.pointer (some ⟨0, 33, none⟩)), .int .u64 11, .pointer none, .pointer none, .bool false, .bool false, .bool false, .bool true, .bool false] 49)) := by
  go_enter Tryr.func5, Tryr.ntmps5
  go_wp2_with fail
  refine (nat_uint64 _).mono ?_
  rintro e w1 ⟨rfl, rfl⟩
  go_wp2
  go_returns
  exact ⟨rfl, rfl⟩
theorem cacheNat_uintptr (cv : Value) (w : World) : Calls Tryr.prog 48 #[cv, .iface 12 (.int .u64 0)] w fun e w' => e = .returned (.agg #[.iface 89 (.pointer (some ⟨0, 12, none⟩)), .int .u64 12, .pointer none, .pointer none, .bool false, .bool false, .bool false, .bool true, .bool false]) ∧ w' = ((w.alloc (.cells #[.iface 89 (.pointer (some ⟨0, 12, none⟩)), .int .u64 12, .pointer none, .pointer none, .bool false, .bool false, .bool false, .bool true, .bool false] 49)).alloc (.cells #[.iface 89 (.pointer (some ⟨0, 12, none⟩)), .int .u64 12, .pointer none, .pointer none, .bool false, .bool false, .bool false, .bool true, .bool false] 49)) := by
  have g := typeOf
  go_enter Tryr.func48, Tryr.ntmps48
  go_wp2_with fail
  refine (fromType_uintptr _ _).mono ?_
  rintro e w1 ⟨rfl, rfl⟩
  go_wp2
  go_returns
  exact ⟨rfl, rfl⟩
theorem natureOf_uintptr (w : World) : Calls Tryr.prog 40 #[.iface 12 (.int .u64 0)] w fun e w' => e = .returned (.agg #[.iface 89 (.pointer (some ⟨0, 12, none⟩)), .int .u64 12, .pointer none, .pointer none, .bool false, .bool false, .bool false, .bool true, .bool false]) ∧ w' = (((w.alloc (.cells #[.iface 89 (.pointer (some ⟨0, 12, none⟩)), .int .u64 12, .pointer none, .pointer none, .bool false, .bool false, .bool false, .bool true, .bool false] 49)).alloc (.cells #[.iface 89 (.pointer (some ⟨0, 12, none⟩)), .int .u64 12, .pointer none, .pointer none, .bool false, .bool false, .bool false, .bool true, .bool false] 49)).alloc (.cells #[.iface 89 (.pointer (some ⟨0, 12, none⟩)), .int .u64 12, .pointer none, .pointer none, .bool false, .bool false, .bool false, .bool true, .bool false] 49)) := by
  go_enter Tryr.func40, Tryr.ntmps40
  go_wp2_with fail
  refine (cacheNat_uintptr _ _).mono ?_
  rintro e w1 ⟨rfl, rfl⟩
  go_wp2
  go_returns
  exact ⟨rfl, rfl⟩
theorem nat_uintptr (w : World) : Calls Tryr.prog 19 #[] w fun e w' => e = .returned (.agg #[.iface 89 (.pointer (some ⟨0, 12, none⟩)), .int .u64 12, .pointer none, .pointer none, .bool false, .bool false, .bool false, .bool true, .bool false]) ∧ w' = ((((w.alloc (.cells #[.iface 89 (.pointer (some ⟨0, 12, none⟩)), .int .u64 12, .pointer none, .pointer none, .bool false, .bool false, .bool false, .bool true, .bool false] 49)).alloc (.cells #[.iface 89 (.pointer (some ⟨0, 12, none⟩)), .int .u64 12, .pointer none, .pointer none, .bool false, .bool false, .bool false, .bool true, .bool false] 49)).alloc (.cells #[.iface 89 (.pointer (some ⟨0, 12, none⟩)), .int .u64 12, .pointer none, .pointer none, .bool false, .bool false, .bool false, .bool true, .bool false] 49)).alloc (.cells #[.iface 89 (.pointer (some ⟨0, 12, none⟩)), .int .u64 12, .pointer none, .pointer none, .bool false, .bool false, .bool false, .bool true, .bool false] 49)) := by
  go_enter Tryr.func19, Tryr.ntmps19
  go_wp2_with fail
  refine (natureOf_uintptr _).mono ?_
  rintro e w1 ⟨rfl, rfl⟩
  go_wp2
  go_returns
  exact ⟨rfl, rfl⟩
theorem code_uintptr (w : World) : Calls Tryr.prog 5 #[.int .i64 10] w fun e w' => e = .returned (.agg #[.iface 89 (.pointer (some ⟨0, 12, none⟩)), .int .u64 12, .pointer none, .pointer none, .bool false, .bool false, .bool false, .bool true, .bool false]) ∧ w' = (((((w.alloc (.cells #[.iface 89 (.pointer (some ⟨0, 12, none⟩)), .int .u64 12, .pointer none, .pointer none, .bool false, .bool false, .bool false, .bool true, .bool false] 49)).alloc (.cells #[.iface 89 (.pointer (some ⟨0, 12, none⟩)), .int .u64 12, .pointer none, .pointer none, .bool false, .bool false, .bool false, .bool true, .bool false] 49)).alloc (.cells #[.iface 89 (.pointer (some ⟨0, 12, none⟩)), .int .u64 12, .pointer none, .pointer none, .bool false, .bool false, .bool false, .bool true, .bool false] 49)).alloc (.cells #[.iface 89 (.pointer (some ⟨0, 12, none⟩)), .int .u64 12, .pointer none, .pointer none, .bool false, .bool false, .bool false, .bool true, .bool false] 49)).alloc (.cells #[.iface 89 (.pointer (some ⟨0, 12, none⟩)), .int .u64 12, .pointer none, .pointer none, .bool false, .bool false, .bool false, .bool true, .bool false] 49)) := by
  go_enter Tryr.func5, Tryr.ntmps5
  go_wp2_with fail
  refine (nat_uintptr _).mono ?_
  rintro e w1 ⟨rfl, rfl⟩
  go_wp2
  go_returns
  exact ⟨rfl, rfl⟩
theorem cacheNat_float32 (cv : Value) (w : World) : Calls Tryr.prog 48 #[cv, .iface 26 (.float .f32 0)] w fun e w' => e = .returned (.agg #[.iface 89 (.pointer (some ⟨0, 26, none⟩)), .int .u64 13, .pointer none, .pointer none, .bool false, .bool false, .bool false, .bool false, .bool true]) ∧ w' = ((w.alloc (.cells #[.iface 89 (.pointer (some ⟨0, 26, none⟩)), .int .u64 13, .pointer none, .pointer none, .bool false, .bool false, .bool false, .bool false, .bool true] 49)).alloc (.cells #[.iface 89 (.pointer (some ⟨0, 26, none⟩)), .int .u64 13, .pointer none, .pointer none, .bool false, .bool false, .bool false, .bool false, .bool true] 49)) := by
  have g := typeOf
  go_enter Tryr.func48, Tryr.ntmps48
  go_wp2_with fail
  refine (fromType_float32 _ _).mono ?_
  rintro e w1 ⟨rfl, rfl⟩
  go_wp2
  go_returns
  exact ⟨rfl, rfl⟩
theorem natureOf_float32 (w : World) : Calls Tryr.prog 40 #[.iface 26 (.float .f32 0)] w fun e w' => e = .returned (.agg #[.iface 89 (.pointer (some ⟨0, 26, none⟩)), .int .u64 13, .pointer none, .pointer none, .bool false, .bool false, .bool false, .bool false, .bool true]) ∧ w' = (((w.alloc (.cells #[.iface 89 (.pointer (some ⟨0, 26, none⟩)), .int .u64 13, .pointer none, .pointer none, .bool false, .bool false, .bool false, .bool false, .bool true] 49)).alloc (.cells #[.iface 89 (.pointer (some ⟨0, 26, none⟩)), .int .u64 13, .pointer none, .pointer none, .bool false, .bool false, .bool false, .bool false, .bool true] 49)).alloc (.cells #[.iface 89 (.pointer (some ⟨0, 26, none⟩)), .int .u64 13, .pointer none, .pointer none, .bool false, .bool false, .bool false, .bool false, .bool true] 49)) := by
  go_enter Tryr.func40, Tryr.ntmps40
  go_wp2_with fail
  refine (cacheNat_float32 _ _).mono ?_
  rintro e w1 ⟨rfl, rfl⟩
  go_wp2
  go_returns
  exact ⟨rfl, rfl⟩
theorem nat_float32 (w : World) : Calls Tryr.prog 20 #[] w fun e w' => e = .returned (.agg #[.iface 89 (.pointer (some ⟨0, 26, none⟩)), .int .u64 13, .pointer none, .pointer none, .bool false, .bool false, .bool false, .bool false, .bool true]) ∧ w' = ((((w.alloc (.cells #[.iface 89 (.pointer (some ⟨0, 26, none⟩)), .int .u64 13, .pointer none, .pointer none, .bool false, .bool false, .bool false, .bool false, .bool true] 49)).alloc (.cells #[.iface 89 (.pointer (some ⟨0, 26, none⟩)), .int .u64 13, .pointer none, .pointer none, .bool false, .bool false, .bool false, .bool false, .bool true] 49)).alloc (.cells #[.iface 89 (.pointer (some ⟨0, 26, none⟩)), .int .u64 13, .pointer none, .pointer none, .bool false, .bool false, .bool false, .bool false, .bool true] 49)).alloc (.cells #[.iface 89 (.pointer (some ⟨0, 26, none⟩)), .int .u64 13, .pointer none, .pointer none, .bool false, .bool false, .bool false, .bool false, .bool true] 49)) := by
  go_enter Tryr.func20, Tryr.ntmps20
  go_wp2_with fail
  refine (natureOf_float32 _).mono ?_
  rintro e w1 ⟨rfl, rfl⟩
  go_wp2
  go_returns
  exact ⟨rfl, rfl⟩
theorem code_float32 (w : World) : Calls Tryr.prog 5 #[.int .i64 11] w fun e w' => e = .returned (.agg #[.iface 89 (.pointer (some ⟨0, 26, none⟩)), .int .u64 13, .pointer none, .pointer none, .bool false, .bool false, .bool false, .bool false, .bool true]) ∧ w' = (((((w.alloc (.cells #[.iface 89 (.pointer (some ⟨0, 26, none⟩)), .int .u64 13, .pointer none, .pointer none, .bool false, .bool false, .bool false, .bool false, .bool true] 49)).alloc (.cells #[.iface 89 (.pointer (some ⟨0, 26, none⟩)), .int .u64 13, .pointer none, .pointer none, .bool false, .bool false, .bool false, .bool false, .bool true] 49)).alloc (.cells #[.iface 89 (.pointer (some ⟨0, 26, none⟩)), .int .u64 13, .pointer none, .pointer none, .bool false, .bool false, .bool false, .bool false, .bool true] 49)).alloc (.cells #[.iface 89 (.pointer (some ⟨0, 26, none⟩)), .int .u64 13, .pointer none, .pointer none, .bool false, .bool false, .bool false, .bool false, .bool true] 49)).alloc (.cells #[.iface 89 (.pointer (some ⟨0, 26, none⟩)), .int .u64 13, .pointer none, .pointer none, .bool false, .bool false, .bool false, .bool false, .bool true] 49)) := by
  go_enter Tryr.func5, Tryr.ntmps5
  go_wp2_with fail
  refine (nat_float32 _).mono ?_
  rintro e w1 ⟨rfl, rfl⟩
  go_wp2
  go_returns
  exact ⟨rfl, rfl⟩
theorem cacheNat_float64 (cv : Value) (w : World) : Calls Tryr.prog 48 #[cv, .iface 27 (.float .f64 0)] w fun e w' => e = .returned (.agg #[.iface 89 (.pointer (some ⟨0, 27, none⟩)), .int .u64 14, .pointer none, .pointer none, .bool false, .bool false, .bool false, .bool false, .bool true]) ∧ w' = ((w.alloc (.cells #[.iface 89 (.pointer (some ⟨0, 27, none⟩)), .int .u64 14, .pointer none, .pointer none, .bool false, .bool false, .bool false, .bool false, .bool true] 49)).alloc (.cells #[.iface 89 (.pointer (some ⟨0, 27, none⟩)), .int .u64 14, .pointer none, .pointer none, .bool false, .bool false, .bool false, .bool false, .bool true] 49)) := by
  have g := typeOf
  go_enter Tryr.func48, Tryr.ntmps48
  go_wp2_with fail
  refine (fromType_float64 _ _).mono ?_
  rintro e w1 ⟨rfl, rfl⟩
  go_wp2
  go_returns
  exact ⟨rfl, rfl⟩
theorem natureOf_float64 (w : World) : Calls Tryr.prog 40 #[.iface 27 (.float .f64 0)] w fun e w' => e = .returned (.agg #[.iface 89 (.pointer (some ⟨0, 27, none⟩)), .int .u64 14, .pointer none, .pointer none, .bool false, .bool false, .bool false, .bool false, .bool true]) ∧ w' = (((w.alloc (.cells #[.iface 89 (.pointer (some ⟨0, 27, none⟩)), .int .u64 14, .pointer none, .pointer none, .bool false, .bool false, .bool false, .bool false, .bool true] 49)).alloc (.cells #[.iface 89 (.pointer (some ⟨0, 27, none⟩)), .int .u64 14, .pointer none, .pointer none, .bool false, .bool false, .bool false, .bool false, .bool true] 49)).alloc (.cells #[.iface 89 (.pointer (some ⟨0, 27, none⟩)), .int .u64 14, .pointer none, .pointer none, .bool false, .bool false, .bool false, .bool false, .bool true] 49)) := by
  go_enter Tryr.func40, Tryr.ntmps40
  go_wp2_with fail
  refine (cacheNat_float64 _ _).mono ?_
  rintro e w1 ⟨rfl, rfl⟩
  go_wp2
  go_returns
  exact ⟨rfl, rfl⟩
theorem nat_float64 (w : World) : Calls Tryr.prog 21 #[] w fun e w' => e = .returned (.agg #[.iface 89 (.pointer (some ⟨0, 27, none⟩)), .int .u64 14, .pointer none, .pointer none, .bool false, .bool false, .bool false, .bool false, .bool true]) ∧ w' = ((((w.alloc (.cells #[.iface 89 (.pointer (some ⟨0, 27, none⟩)), .int .u64 14, .pointer none, .pointer none, .bool false, .bool false, .bool false, .bool false, .bool true] 49)).alloc (.cells #[.iface 89 (.pointer (some ⟨0, 27, none⟩)), .int .u64 14, .pointer none, .pointer none, .bool false, .bool false, .bool false, .bool false, .bool true] 49)).alloc (.cells #[.iface 89 (.pointer (some ⟨0, 27, none⟩)), .int .u64 14, .pointer none, .pointer none, .bool false, .bool false, .bool false, .bool false, .bool true] 49)).alloc (.cells #[.iface 89 (.pointer (some ⟨0, 27, none⟩)), .int .u64 14, .pointer none, .pointer none, .bool false, .bool false, .bool false, .bool false, .bool true] 49)) := by
  go_enter Tryr.func21, Tryr.ntmps21
  go_wp2_with fail
  refine (natureOf_float64 _).mono ?_
  rintro e w1 ⟨rfl, rfl⟩
  go_wp2
  go_returns
  exact ⟨rfl, rfl⟩
theorem code_float64 (w : World) : Calls Tryr.prog 5 #[.int .i64 12] w fun e w' => e = .returned (.agg #[.iface 89 (.pointer (some ⟨0, 27, none⟩)), .int .u64 14, .pointer none, .pointer none, .bool false, .bool false, .bool false, .bool false, .bool true]) ∧ w' = (((((w.alloc (.cells #[.iface 89 (.pointer (some ⟨0, 27, none⟩)), .int .u64 14, .pointer none, .pointer none, .bool false, .bool false, .bool false, .bool false, .bool true] 49)).alloc (.cells #[.iface 89 (.pointer (some ⟨0, 27, none⟩)), .int .u64 14, .pointer none, .pointer none, .bool false, .bool false, .bool false, .bool false, .bool true] 49)).alloc (.cells #[.iface 89 (.pointer (some ⟨0, 27, none⟩)), .int .u64 14, .pointer none, .pointer none, .bool false, .bool false, .bool false, .bool false, .bool true] 49)).alloc (.cells #[.iface 89 (.pointer (some ⟨0, 27, none⟩)), .int .u64 14, .pointer none, .pointer none, .bool false, .bool false, .bool false, .bool false, .bool true] 49)).alloc (.cells #[.iface 89 (.pointer (some ⟨0, 27, none⟩)), .int .u64 14, .pointer none, .pointer none, .bool false, .bool false, .bool false, .bool false, .bool true] 49)) := by
  go_enter Tryr.func5, Tryr.ntmps5
  go_wp2_with fail
  refine (nat_float64 _).mono ?_
  rintro e w1 ⟨rfl, rfl⟩
  go_wp2
  go_returns
  exact ⟨rfl, rfl⟩
end Go.Proofs.YtikelicjllfgeaaRefl.nat
