/-
The walks that make the natures of the five types over this cut. No condition.
-/
import Derived.Test.YtiddjmnknndcaaaReflFmtOptA
namespace Go.Proofs.YtiddjmnknndcaaaReflFmt.opt
open Go Go.Proofs Go.RowKit
set_option maxRecDepth 100000
set_option maxHeartbeats 1000000
theorem pkgFrom (t k : Nat) (i f : Bool) (h : ∀ w, Calls Tryr.prog 34 #[.pointer none, (.iface 101 (.pointer (some ⟨3, t, none⟩)))] w fun e w' => e = .returned (.agg #[(.iface 101 (.pointer (some ⟨3, t, none⟩))), .int .u64 k, .pointer none, .pointer none, .bool false, .bool false, .bool false, .bool i, .bool f]) ∧ w' = w.alloc (.cells #[(.iface 101 (.pointer (some ⟨3, t, none⟩))), .int .u64 k, .pointer none, .pointer none, .bool false, .bool false, .bool false, .bool i, .bool f] 66)) (w : World) :
    Calls Tryr.prog 29 #[(.iface 101 (.pointer (some ⟨3, t, none⟩)))] w fun e w' => e = .returned (.agg #[(.iface 101 (.pointer (some ⟨3, t, none⟩))), .int .u64 k, .pointer none, .pointer none, .bool false, .bool false, .bool false, .bool i, .bool f]) ∧ w' = (w.alloc (.cells #[(.iface 101 (.pointer (some ⟨3, t, none⟩))), .int .u64 k, .pointer none, .pointer none, .bool false, .bool false, .bool false, .bool i, .bool f] 66)).alloc (.cells #[(.iface 101 (.pointer (some ⟨3, t, none⟩))), .int .u64 k, .pointer none, .pointer none, .bool false, .bool false, .bool false, .bool i, .bool f] 66) := by
  go_enter Tryr.func29, Tryr.ntmps29
  go_wp2_with fail
  refine (h _).mono ?_
  rintro e w1 ⟨rfl, rfl⟩
  go_wp2
  go_returns
  exact ⟨rfl, rfl⟩
theorem fromType_bool (cv : Value) (w : World) : Calls Tryr.prog 34 #[cv, (.iface 101 (.pointer (some ⟨3, 4, none⟩)))] w fun e w' => e = .returned (.agg #[(.iface 101 (.pointer (some ⟨3, 4, none⟩))), .int .u64 1, .pointer none, .pointer none, .bool false, .bool false, .bool false, .bool false, .bool false]) ∧ w' = w.alloc (.cells #[(.iface 101 (.pointer (some ⟨3, 4, none⟩))), .int .u64 1, .pointer none, .pointer none, .bool false, .bool false, .bool false, .bool false, .bool false] 66) := by
  have g := kind_bool
  go_enter Tryr.func34, Tryr.ntmps34
  go_wp2
  go_returns
  exact ⟨rfl, rfl⟩
theorem pkgFrom_bool (w : World) : Calls Tryr.prog 29 #[(.iface 101 (.pointer (some ⟨3, 4, none⟩)))] w fun e w' => e = .returned (.agg #[(.iface 101 (.pointer (some ⟨3, 4, none⟩))), .int .u64 1, .pointer none, .pointer none, .bool false, .bool false, .bool false, .bool false, .bool false]) ∧ w' = (w.alloc (.cells #[(.iface 101 (.pointer (some ⟨3, 4, none⟩))), .int .u64 1, .pointer none, .pointer none, .bool false, .bool false, .bool false, .bool false, .bool false] 66)).alloc (.cells #[(.iface 101 (.pointer (some ⟨3, 4, none⟩))), .int .u64 1, .pointer none, .pointer none, .bool false, .bool false, .bool false, .bool false, .bool false] 66) := pkgFrom 4 1 false false (fun w => fromType_bool _ w) w
theorem builtin_int (w : World) : Calls Tryr.prog 40 #[(.iface 101 (.pointer (some ⟨3, 3, none⟩)))] w fun e w' => e = .returned (.bool true) ∧ w' = w := by
  have g1 := typeOf
  have g2 := eql
  go_enter Tryr.func40, Tryr.ntmps40
  go_wp2
  go_ret
  exact ⟨rfl, rfl⟩
theorem fromType_int (cv : Value) (w : World) : Calls Tryr.prog 34 #[cv, (.iface 101 (.pointer (some ⟨3, 3, none⟩)))] w fun e w' => e = .returned (.agg #[(.iface 101 (.pointer (some ⟨3, 3, none⟩))), .int .u64 2, .pointer none, .pointer none, .bool false, .bool false, .bool false, .bool true, .bool false]) ∧ w' = w.alloc (.cells #[(.iface 101 (.pointer (some ⟨3, 3, none⟩))), .int .u64 2, .pointer none, .pointer none, .bool false, .bool false, .bool false, .bool true, .bool false] 66) := by
  have g := kind_int
  go_enter Tryr.func34, Tryr.ntmps34
  go_wp2_with fail
  refine (builtin_int _).mono ?_
  rintro e w1 ⟨rfl, rfl⟩
  go_wp2
  go_returns
  exact ⟨rfl, rfl⟩
theorem pkgFrom_int (w : World) : Calls Tryr.prog 29 #[(.iface 101 (.pointer (some ⟨3, 3, none⟩)))] w fun e w' => e = .returned (.agg #[(.iface 101 (.pointer (some ⟨3, 3, none⟩))), .int .u64 2, .pointer none, .pointer none, .bool false, .bool false, .bool false, .bool true, .bool false]) ∧ w' = (w.alloc (.cells #[(.iface 101 (.pointer (some ⟨3, 3, none⟩))), .int .u64 2, .pointer none, .pointer none, .bool false, .bool false, .bool false, .bool true, .bool false] 66)).alloc (.cells #[(.iface 101 (.pointer (some ⟨3, 3, none⟩))), .int .u64 2, .pointer none, .pointer none, .bool false, .bool false, .bool false, .bool true, .bool false] 66) := pkgFrom 3 2 true false (fun w => fromType_int _ w) w
theorem builtin_float64 (w : World) : Calls Tryr.prog 41 #[(.iface 101 (.pointer (some ⟨3, 27, none⟩)))] w fun e w' => e = .returned (.bool true) ∧ w' = w := by
  have g1 := typeOf
  have g2 := eql
  go_enter Tryr.func41, Tryr.ntmps41
  go_wp2
  go_ret
  exact ⟨rfl, rfl⟩
theorem fromType_float64 (cv : Value) (w : World) : Calls Tryr.prog 34 #[cv, (.iface 101 (.pointer (some ⟨3, 27, none⟩)))] w fun e w' => e = .returned (.agg #[(.iface 101 (.pointer (some ⟨3, 27, none⟩))), .int .u64 14, .pointer none, .pointer none, .bool false, .bool false, .bool false, .bool false, .bool true]) ∧ w' = w.alloc (.cells #[(.iface 101 (.pointer (some ⟨3, 27, none⟩))), .int .u64 14, .pointer none, .pointer none, .bool false, .bool false, .bool false, .bool false, .bool true] 66) := by
  have g := kind_float64
  go_enter Tryr.func34, Tryr.ntmps34
  go_wp2_with fail
  refine (builtin_float64 _).mono ?_
  rintro e w1 ⟨rfl, rfl⟩
  go_wp2
  go_returns
  exact ⟨rfl, rfl⟩
theorem pkgFrom_float64 (w : World) : Calls Tryr.prog 29 #[(.iface 101 (.pointer (some ⟨3, 27, none⟩)))] w fun e w' => e = .returned (.agg #[(.iface 101 (.pointer (some ⟨3, 27, none⟩))), .int .u64 14, .pointer none, .pointer none, .bool false, .bool false, .bool false, .bool false, .bool true]) ∧ w' = (w.alloc (.cells #[(.iface 101 (.pointer (some ⟨3, 27, none⟩))), .int .u64 14, .pointer none, .pointer none, .bool false, .bool false, .bool false, .bool false, .bool true] 66)).alloc (.cells #[(.iface 101 (.pointer (some ⟨3, 27, none⟩))), .int .u64 14, .pointer none, .pointer none, .bool false, .bool false, .bool false, .bool false, .bool true] 66) := pkgFrom 27 14 false true (fun w => fromType_float64 _ w) w
theorem fromType_string (cv : Value) (w : World) : Calls Tryr.prog 34 #[cv, (.iface 101 (.pointer (some ⟨3, 9, none⟩)))] w fun e w' => e = .returned (.agg #[(.iface 101 (.pointer (some ⟨3, 9, none⟩))), .int .u64 24, .pointer none, .pointer none, .bool false, .bool false, .bool false, .bool false, .bool false]) ∧ w' = w.alloc (.cells #[(.iface 101 (.pointer (some ⟨3, 9, none⟩))), .int .u64 24, .pointer none, .pointer none, .bool false, .bool false, .bool false, .bool false, .bool false] 66) := by
  have g := kind_string
  go_enter Tryr.func34, Tryr.ntmps34
  go_wp2
  go_returns
  exact ⟨rfl, rfl⟩
theorem pkgFrom_string (w : World) : Calls Tryr.prog 29 #[(.iface 101 (.pointer (some ⟨3, 9, none⟩)))] w fun e w' => e = .returned (.agg #[(.iface 101 (.pointer (some ⟨3, 9, none⟩))), .int .u64 24, .pointer none, .pointer none, .bool false, .bool false, .bool false, .bool false, .bool false]) ∧ w' = (w.alloc (.cells #[(.iface 101 (.pointer (some ⟨3, 9, none⟩))), .int .u64 24, .pointer none, .pointer none, .bool false, .bool false, .bool false, .bool false, .bool false] 66)).alloc (.cells #[(.iface 101 (.pointer (some ⟨3, 9, none⟩))), .int .u64 24, .pointer none, .pointer none, .bool false, .bool false, .bool false, .bool false, .bool false] 66) := pkgFrom 9 24 false false (fun w => fromType_string _ w) w
theorem fromType_any (cv : Value) (w : World) : Calls Tryr.prog 34 #[cv, (.iface 101 (.pointer (some ⟨3, 20, none⟩)))] w fun e w' => e = .returned (.agg #[(.iface 101 (.pointer (some ⟨3, 20, none⟩))), .int .u64 20, .pointer none, .pointer none, .bool false, .bool false, .bool false, .bool false, .bool false]) ∧ w' = w.alloc (.cells #[(.iface 101 (.pointer (some ⟨3, 20, none⟩))), .int .u64 20, .pointer none, .pointer none, .bool false, .bool false, .bool false, .bool false, .bool false] 66) := by
  have g := kind_any
  go_enter Tryr.func34, Tryr.ntmps34
  go_wp2
  go_returns
  exact ⟨rfl, rfl⟩
theorem pkgFrom_any (w : World) : Calls Tryr.prog 29 #[(.iface 101 (.pointer (some ⟨3, 20, none⟩)))] w fun e w' => e = .returned (.agg #[(.iface 101 (.pointer (some ⟨3, 20, none⟩))), .int .u64 20, .pointer none, .pointer none, .bool false, .bool false, .bool false, .bool false, .bool false]) ∧ w' = (w.alloc (.cells #[(.iface 101 (.pointer (some ⟨3, 20, none⟩))), .int .u64 20, .pointer none, .pointer none, .bool false, .bool false, .bool false, .bool false, .bool false] 66)).alloc (.cells #[(.iface 101 (.pointer (some ⟨3, 20, none⟩))), .int .u64 20, .pointer none, .pointer none, .bool false, .bool false, .bool false, .bool false, .bool false] 66) := pkgFrom 20 20 false false (fun w => fromType_any _ w) w
/-- a tag's type: 1 bool, 2 int, 3 float64, 4 string, 5 any -/
noncomputable def tyN : Nat → Nat
  | 1 => 4
  | 2 => 3
  | 3 => 27
  | 4 => 9
  | _ => 20
noncomputable def kdN : Nat → Int
  | 1 => 1
  | 2 => 2
  | 3 => 14
  | 4 => 24
  | _ => 20
noncomputable def tyV (u : Nat) : Value := .iface 101 (.pointer (some ⟨3, tyN u, none⟩))
/-- a nature by its tag; 0: none -/
noncomputable def natC : Nat → Array Value
  | 0 => #[.nilIface, .int .u64 0, .pointer none, .pointer none, .bool false, .bool false, .bool false, .bool false, .bool false]
  | u => #[tyV u, .int .u64 (kdN u), .pointer none, .pointer none, .bool false, .bool false, .bool false, .bool (u == 2), .bool (u == 3)]
theorem pkgFromT (u : Nat) (h1 : 1 ≤ u) (h5 : u ≤ 5) (w : World) : Calls Tryr.prog 29 #[tyV u] w fun e w' => e = .returned (.agg (natC u)) ∧ w' = (w.alloc (.cells (natC u) 66)).alloc (.cells (natC u) 66) := by
  match u, h1, h5 with
  | 1, _, _ => exact pkgFrom_bool w
  | 2, _, _ => exact pkgFrom_int w
  | 3, _, _ => exact pkgFrom_float64 w
  | 4, _, _ => exact pkgFrom_string w
  | 5, _, _ => exact pkgFrom_any w
theorem natC_size (u : Nat) : (natC u).size = 9 := by cases u <;> rfl
theorem natC_one (u : Nat) : ∀ v ∈ (natC u).toList, v.oneCell' = true := by
  cases u <;> (intro v hv; simp [natC, tyV] at hv; rcases hv with rfl | rfl | rfl | rfl | rfl | rfl | rfl <;> rfl)
end Go.Proofs.YtiddjmnknndcaaaReflFmt.opt
