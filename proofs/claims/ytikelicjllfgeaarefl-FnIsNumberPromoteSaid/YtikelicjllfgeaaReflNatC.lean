/-
The number's own methods over this cut (IsUnknown, IsNumber, ComparableTo, PromoteNumericNature), at natures whose kind is no interface. No condition.
-/
import Derived.Test.YtikelicjllfgeaaReflNatB
namespace Go.Proofs.YtikelicjllfgeaaRefl.nat
open Go Go.Proofs Go.RowKit
set_option maxRecDepth 100000
set_option maxHeartbeats 1000000
theorem isAny (b t k : Nat) (cv : Value) (w : World) (h0 : w.cell? ⟨b, 0, none⟩ = some (.iface 89 (.pointer (some ⟨0, t, none⟩)))) (h1 : w.cell? ⟨b, 1, none⟩ = some (.int .u64 k)) (hk : ((k : Int) == 20) = false) :
    Calls Tryr.prog 41 #[.pointer (some ⟨b, 0, none⟩), cv] w fun e w' => e = .returned (.bool false) ∧ w' = w := by
  go_enter Tryr.func41, Tryr.ntmps41
  go_wp2
  go_ret
  exact ⟨rfl, rfl⟩
theorem isUnknown (b t k : Nat) (cv : Value) (w : World) (h0 : w.cell? ⟨b, 0, none⟩ = some (.iface 89 (.pointer (some ⟨0, t, none⟩)))) (h1 : w.cell? ⟨b, 1, none⟩ = some (.int .u64 k)) (hk : ((k : Int) == 20) = false) :
    Calls Tryr.prog 32 #[.pointer (some ⟨b, 0, none⟩), cv] w fun e w' => e = .returned (.bool false) ∧ w' = w := by
  go_enter Tryr.func32, Tryr.ntmps32
  go_wp2_with fail
  refine (isAny b t k _ w h0 h1 hk).mono ?_
  rintro e w1 ⟨rfl, rfl⟩
  go_wp2
  go_ret
  exact ⟨rfl, rfl⟩
theorem isNumber (b : Nat) (i f : Bool) (w : World) (h7 : w.cell? ⟨b, 7, none⟩ = some (.bool i)) (h8 : w.cell? ⟨b, 8, none⟩ = some (.bool f)) :
    Calls Tryr.prog 6 #[.pointer (some ⟨b, 0, none⟩)] w fun e w' => e = .returned (.bool (i || f)) ∧ w' = w := by
  go_enter Tryr.func6, Tryr.ntmps6
  cases i <;> cases f <;> (go_wp2; go_ret; exact ⟨rfl, rfl⟩)
theorem intType (w : World) : Calls Tryr.prog 39 #[] w fun e w' => e = .returned (.iface 89 (.pointer (some ⟨0, 3, none⟩))) ∧ w' = w := by
  have g := typeOf
  go_enter Tryr.func39, Tryr.ntmps39
  go_wp2
  go_ret
  exact ⟨rfl, rfl⟩
theorem floatType (w : World) : Calls Tryr.prog 38 #[] w fun e w' => e = .returned (.iface 89 (.pointer (some ⟨0, 27, none⟩))) ∧ w' = w := by
  have g := typeOf
  go_enter Tryr.func38, Tryr.ntmps38
  go_wp2
  go_ret
  exact ⟨rfl, rfl⟩
theorem up {w : World} {a : Addr} {v : Value} {o : Obj} (h : w.cell? a = some v) : (w.alloc o).cell? a = some v := by
  rw [World.cell?_alloc_lt _ _ _ (World.block_lt_of_cell? w _ h)]; exact h
theorem comparableTo (b t k t' k' : Nat) (i f i' f' : Bool) (cv : Value) (w : World) (h0 : w.cell? ⟨b, 0, none⟩ = some (.iface 89 (.pointer (some ⟨0, t, none⟩)))) (h1 : w.cell? ⟨b, 1, none⟩ = some (.int .u64 k)) (h4 : w.cell? ⟨b, 4, none⟩ = some (.bool false)) (h7 : w.cell? ⟨b, 7, none⟩ = some (.bool i)) (h8 : w.cell? ⟨b, 8, none⟩ = some (.bool f)) (hk : ((k : Int) == 20) = false) (hk' : ((k' : Int) == 20) = false) (hn : (i || f) = true) (hn' : (i' || f') = true) :
    Calls Tryr.prog 7 #[.pointer (some ⟨b, 0, none⟩), cv, (.agg #[.iface 89 (.pointer (some ⟨0, t', none⟩)), .int .u64 k', .pointer none, .pointer none, .bool false, .bool false, .bool false, .bool i', .bool f'])] w fun e w' => e = .returned (.bool true) ∧ w' = w.alloc (.cells #[.iface 89 (.pointer (some ⟨0, t', none⟩)), .int .u64 k', .pointer none, .pointer none, .bool false, .bool false, .bool false, .bool i', .bool f'] 49) := by
  have g0 : (w.alloc (.cells #[.iface 89 (.pointer (some ⟨0, t', none⟩)), .int .u64 k', .pointer none, .pointer none, .bool false, .bool false, .bool false, .bool i', .bool f'] 49)).cell? ⟨b, 0, none⟩ = some (.iface 89 (.pointer (some ⟨0, t, none⟩))) := by
    rw [World.cell?_alloc_lt _ _ _ (World.block_lt_of_cell? w _ h0)]; exact h0
  have g1 : (w.alloc (.cells #[.iface 89 (.pointer (some ⟨0, t', none⟩)), .int .u64 k', .pointer none, .pointer none, .bool false, .bool false, .bool false, .bool i', .bool f'] 49)).cell? ⟨b, 1, none⟩ = some (.int .u64 k) := by
    rw [World.cell?_alloc_lt _ _ _ (World.block_lt_of_cell? w _ h1)]; exact h1
  have g4 : (w.alloc (.cells #[.iface 89 (.pointer (some ⟨0, t', none⟩)), .int .u64 k', .pointer none, .pointer none, .bool false, .bool false, .bool false, .bool i', .bool f'] 49)).cell? ⟨b, 4, none⟩ = some (.bool false) := by
    rw [World.cell?_alloc_lt _ _ _ (World.block_lt_of_cell? w _ h4)]; exact h4
  have g7 : (w.alloc (.cells #[.iface 89 (.pointer (some ⟨0, t', none⟩)), .int .u64 k', .pointer none, .pointer none, .bool false, .bool false, .bool false, .bool i', .bool f'] 49)).cell? ⟨b, 7, none⟩ = some (.bool i) := by
    rw [World.cell?_alloc_lt _ _ _ (World.block_lt_of_cell? w _ h7)]; exact h7
  have g8 : (w.alloc (.cells #[.iface 89 (.pointer (some ⟨0, t', none⟩)), .int .u64 k', .pointer none, .pointer none, .bool false, .bool false, .bool false, .bool i', .bool f'] 49)).cell? ⟨b, 8, none⟩ = some (.bool f) := by
    rw [World.cell?_alloc_lt _ _ _ (World.block_lt_of_cell? w _ h8)]; exact h8
  go_enter Tryr.func7, Tryr.ntmps7
  go_wp2_with fail
  refine (isUnknown b t k _ _ g0 g1 hk).mono ?_
  rintro e w1 ⟨rfl, rfl⟩
  go_wp2_with fail
  refine (isUnknown w.heap.size t' k' _ _ (by simp) (by simp) hk').mono ?_
  rintro e w1 ⟨rfl, rfl⟩
  go_wp2_with fail
  refine (isNumber b i f _ g7 g8).mono ?_
  rintro e w1 ⟨rfl, rfl⟩
  rw [hn]
  go_wp2_with fail
  refine (isNumber w.heap.size i' f' _ (by simp) (by simp)).mono ?_
  rintro e w1 ⟨rfl, rfl⟩
  rw [hn']
  go_wp2
  go_ret
  exact ⟨rfl, rfl⟩
theorem promote (b t k t' k' : Nat) (f i' f' : Bool) (cv : Value) (w : World) (h0 : w.cell? ⟨b, 0, none⟩ = some (.iface 89 (.pointer (some ⟨0, t, none⟩)))) (h1 : w.cell? ⟨b, 1, none⟩ = some (.int .u64 k)) (h8 : w.cell? ⟨b, 8, none⟩ = some (.bool f)) (hk : ((k : Int) == 20) = false) (hk' : ((k' : Int) == 20) = false) :
    Calls Tryr.prog 8 #[.pointer (some ⟨b, 0, none⟩), cv, (.agg #[.iface 89 (.pointer (some ⟨0, t', none⟩)), .int .u64 k', .pointer none, .pointer none, .bool false, .bool false, .bool false, .bool i', .bool f'])] w fun e w' => e = .returned (if f || f' then (.agg #[.iface 89 (.pointer (some ⟨0, 27, none⟩)), .int .u64 14, .pointer none, .pointer none, .bool false, .bool false, .bool false, .bool false, .bool true]) else (.agg #[.iface 89 (.pointer (some ⟨0, 3, none⟩)), .int .u64 2, .pointer none, .pointer none, .bool false, .bool false, .bool false, .bool true, .bool false])) ∧ w' = if f || f' then (((w.alloc (.cells #[.iface 89 (.pointer (some ⟨0, t', none⟩)), .int .u64 k', .pointer none, .pointer none, .bool false, .bool false, .bool false, .bool i', .bool f'] 49)).alloc (.cells #[.iface 89 (.pointer (some ⟨0, 27, none⟩)), .int .u64 14, .pointer none, .pointer none, .bool false, .bool false, .bool false, .bool false, .bool true] 49)).alloc (.cells #[.iface 89 (.pointer (some ⟨0, 27, none⟩)), .int .u64 14, .pointer none, .pointer none, .bool false, .bool false, .bool false, .bool false, .bool true] 49)) else (((w.alloc (.cells #[.iface 89 (.pointer (some ⟨0, t', none⟩)), .int .u64 k', .pointer none, .pointer none, .bool false, .bool false, .bool false, .bool i', .bool f'] 49)).alloc (.cells #[.iface 89 (.pointer (some ⟨0, 3, none⟩)), .int .u64 2, .pointer none, .pointer none, .bool false, .bool false, .bool false, .bool true, .bool false] 49)).alloc (.cells #[.iface 89 (.pointer (some ⟨0, 3, none⟩)), .int .u64 2, .pointer none, .pointer none, .bool false, .bool false, .bool false, .bool true, .bool false] 49)) := by
  have q8 : ((w.alloc (.cells #[.iface 89 (.pointer (some ⟨0, t', none⟩)), .int .u64 k', .pointer none, .pointer none, .bool false, .bool false, .bool false, .bool i', .bool f'] 49)).alloc (.cells #[.nilIface, .int .u64 0, .pointer none, .pointer none, .bool false, .bool false, .bool false, .bool false, .bool false] 49)).cell? ⟨b, 8, none⟩ = some (.bool f) := up (up h8)
  go_enter Tryr.func8, Tryr.ntmps8
  go_wp2_with fail
  refine (isUnknown b t k _ _ (up (up h0)) (up (up h1)) hk).mono ?_
  rintro e w1 ⟨rfl, rfl⟩
  go_wp2_with fail
  refine (isUnknown w.heap.size t' k' _ _ (by simp) (by simp) hk').mono ?_
  rintro e w1 ⟨rfl, rfl⟩
  cases f
  · cases f'
    · go_wp2_with fail
      refine (intType _).mono ?_
      rintro e w1 ⟨rfl, rfl⟩
      go_wp2_with fail
      refine (fromType_int _ _).mono ?_
      rintro e w1 ⟨rfl, rfl⟩
      go_wp2
      go_returns
      exact ⟨rfl, rfl⟩
    · go_wp2_with fail
      refine (floatType _).mono ?_
      rintro e w1 ⟨rfl, rfl⟩
      go_wp2_with fail
      refine (fromType_float64 _ _).mono ?_
      rintro e w1 ⟨rfl, rfl⟩
      go_wp2
      go_returns
      exact ⟨rfl, rfl⟩
  · go_wp2_with fail
    refine (floatType _).mono ?_
    rintro e w1 ⟨rfl, rfl⟩
    go_wp2_with fail
    refine (fromType_float64 _ _).mono ?_
    rintro e w1 ⟨rfl, rfl⟩
    go_wp2
    go_returns
    exact ⟨rfl, rfl⟩
end Go.Proofs.YtikelicjllfgeaaRefl.nat
