/-
The table of the seventeen natures, what reflect's AssignableTo answers for their types, and the plain law of ComparableTo over the table. No condition.
-/
import Derived.Test.YtmpppalkbgfpcaaReflCmpC
import Derived.Stop.Asserts
namespace Go.Proofs.YtmpppalkbgfpcaaRefl.nat
open Go Go.Proofs Go.RowKit
set_option maxRecDepth 100000
set_option maxHeartbeats 1000000
def nt : Nat → Nt
  | 0 => ⟨none, 0, false, false, false⟩
  | 1 => ⟨none, 0, true, false, false⟩
  | 2 => ⟨some 3, 2, false, true, false⟩
  | 3 => ⟨some 2, 6, false, true, false⟩
  | 4 => ⟨some 5, 8, false, true, false⟩
  | 5 => ⟨some 27, 14, false, false, true⟩
  | 6 => ⟨some 9, 24, false, false, false⟩
  | 7 => ⟨some 4, 1, false, false, false⟩
  | 8 => ⟨some 60, 6, false, false, false⟩
  | 9 => ⟨some 63, 25, false, false, false⟩
  | 10 => ⟨some 64, 23, false, false, false⟩
  | 11 => ⟨some 65, 23, false, false, false⟩
  | 12 => ⟨some 20, 20, false, false, false⟩
  | 13 => ⟨some 25, 20, false, false, false⟩
  | 14 => ⟨some 69, 21, false, false, false⟩
  | 15 => ⟨some 70, 2, false, false, false⟩
  | _ => ⟨some 71, 22, false, false, false⟩
noncomputable def ms (t : Nat) : Array Method := ((Tryr.prog.info? t).map (·.methods)).getD #[]
theorem noErr (t : Nat) (h : (lacking #[("Error", 95)] (ms t)).isEmpty = false) : (Instr.missingMethod #[("Error", 95)] (ms t)).isNone = false := by
  obtain ⟨m, hm⟩ := missingMethod_some (want := #[("Error", 95)]) (got := ms t) (fun e => by rw [e] at h; cases h)
  rw [hm]; rfl
theorem asg_string_string (w : World) : (callFunc 192 #[.pointer (some ⟨0, 9, none⟩), (.iface 73 (.pointer (some ⟨0, 9, none⟩)))]).run Tryr.prog w = .ok (.value (.bool true)) w := by kernel_rfl
theorem asg_bool_bool (w : World) : (callFunc 192 #[.pointer (some ⟨0, 4, none⟩), (.iface 73 (.pointer (some ⟨0, 4, none⟩)))]).run Tryr.prog w = .ok (.value (.bool true)) w := by kernel_rfl
theorem asg_error_error (w : World) : (callFunc 192 #[.pointer (some ⟨0, 25, none⟩), (.iface 73 (.pointer (some ⟨0, 25, none⟩)))]).run Tryr.prog w = .ok (.value (.bool true)) w := by kernel_rfl
theorem asg_map_map (w : World) : (callFunc 192 #[.pointer (some ⟨0, 69, none⟩), (.iface 73 (.pointer (some ⟨0, 69, none⟩)))]).run Tryr.prog w = .ok (.value (.bool true)) w := by kernel_rfl
theorem asg_month_month (w : World) : (callFunc 192 #[.pointer (some ⟨0, 70, none⟩), (.iface 73 (.pointer (some ⟨0, 70, none⟩)))]).run Tryr.prog w = .ok (.value (.bool true)) w := by kernel_rfl
theorem asg_ptr_ptr (w : World) : (callFunc 192 #[.pointer (some ⟨0, 71, none⟩), (.iface 73 (.pointer (some ⟨0, 71, none⟩)))]).run Tryr.prog w = .ok (.value (.bool true)) w := by kernel_rfl
theorem asg_month_int (w : World) : (callFunc 192 #[.pointer (some ⟨0, 70, none⟩), (.iface 73 (.pointer (some ⟨0, 3, none⟩)))]).run Tryr.prog w = .ok (.value (.bool false)) w := by kernel_rfl
theorem asg_int_month (w : World) : (callFunc 192 #[.pointer (some ⟨0, 3, none⟩), (.iface 73 (.pointer (some ⟨0, 70, none⟩)))]).run Tryr.prog w = .ok (.value (.bool false)) w := by kernel_rfl
theorem asg_int64_duration (w : World) : (callFunc 192 #[.pointer (some ⟨0, 2, none⟩), (.iface 73 (.pointer (some ⟨0, 60, none⟩)))]).run Tryr.prog w = .ok (.value (.bool false)) w := by kernel_rfl
theorem asg_duration_int64 (w : World) : (callFunc 192 #[.pointer (some ⟨0, 60, none⟩), (.iface 73 (.pointer (some ⟨0, 2, none⟩)))]).run Tryr.prog w = .ok (.value (.bool false)) w := by kernel_rfl
theorem asgM_int (w : World) : (callFunc 192 #[.pointer (some ⟨0, 3, none⟩), (.iface 73 (.pointer (some ⟨0, 25, none⟩)))]).run Tryr.prog w = .ok (.value (.bool (Instr.missingMethod #[("Error", 95)] (ms 3)).isNone)) w := by kernel_rfl
theorem asg_int_error (w : World) : (callFunc 192 #[.pointer (some ⟨0, 3, none⟩), (.iface 73 (.pointer (some ⟨0, 25, none⟩)))]).run Tryr.prog w = .ok (.value (.bool false)) w := by
  rw [asgM_int, noErr _ (by kernel_rfl)]
theorem asgM_int64 (w : World) : (callFunc 192 #[.pointer (some ⟨0, 2, none⟩), (.iface 73 (.pointer (some ⟨0, 25, none⟩)))]).run Tryr.prog w = .ok (.value (.bool (Instr.missingMethod #[("Error", 95)] (ms 2)).isNone)) w := by kernel_rfl
theorem asg_int64_error (w : World) : (callFunc 192 #[.pointer (some ⟨0, 2, none⟩), (.iface 73 (.pointer (some ⟨0, 25, none⟩)))]).run Tryr.prog w = .ok (.value (.bool false)) w := by
  rw [asgM_int64, noErr _ (by kernel_rfl)]
theorem asgM_uint8 (w : World) : (callFunc 192 #[.pointer (some ⟨0, 5, none⟩), (.iface 73 (.pointer (some ⟨0, 25, none⟩)))]).run Tryr.prog w = .ok (.value (.bool (Instr.missingMethod #[("Error", 95)] (ms 5)).isNone)) w := by kernel_rfl
theorem asg_uint8_error (w : World) : (callFunc 192 #[.pointer (some ⟨0, 5, none⟩), (.iface 73 (.pointer (some ⟨0, 25, none⟩)))]).run Tryr.prog w = .ok (.value (.bool false)) w := by
  rw [asgM_uint8, noErr _ (by kernel_rfl)]
theorem asgM_float64 (w : World) : (callFunc 192 #[.pointer (some ⟨0, 27, none⟩), (.iface 73 (.pointer (some ⟨0, 25, none⟩)))]).run Tryr.prog w = .ok (.value (.bool (Instr.missingMethod #[("Error", 95)] (ms 27)).isNone)) w := by kernel_rfl
theorem asg_float64_error (w : World) : (callFunc 192 #[.pointer (some ⟨0, 27, none⟩), (.iface 73 (.pointer (some ⟨0, 25, none⟩)))]).run Tryr.prog w = .ok (.value (.bool false)) w := by
  rw [asgM_float64, noErr _ (by kernel_rfl)]
theorem asgM_string (w : World) : (callFunc 192 #[.pointer (some ⟨0, 9, none⟩), (.iface 73 (.pointer (some ⟨0, 25, none⟩)))]).run Tryr.prog w = .ok (.value (.bool (Instr.missingMethod #[("Error", 95)] (ms 9)).isNone)) w := by kernel_rfl
theorem asg_string_error (w : World) : (callFunc 192 #[.pointer (some ⟨0, 9, none⟩), (.iface 73 (.pointer (some ⟨0, 25, none⟩)))]).run Tryr.prog w = .ok (.value (.bool false)) w := by
  rw [asgM_string, noErr _ (by kernel_rfl)]
theorem asgM_bool (w : World) : (callFunc 192 #[.pointer (some ⟨0, 4, none⟩), (.iface 73 (.pointer (some ⟨0, 25, none⟩)))]).run Tryr.prog w = .ok (.value (.bool (Instr.missingMethod #[("Error", 95)] (ms 4)).isNone)) w := by kernel_rfl
theorem asg_bool_error (w : World) : (callFunc 192 #[.pointer (some ⟨0, 4, none⟩), (.iface 73 (.pointer (some ⟨0, 25, none⟩)))]).run Tryr.prog w = .ok (.value (.bool false)) w := by
  rw [asgM_bool, noErr _ (by kernel_rfl)]
theorem asgM_duration (w : World) : (callFunc 192 #[.pointer (some ⟨0, 60, none⟩), (.iface 73 (.pointer (some ⟨0, 25, none⟩)))]).run Tryr.prog w = .ok (.value (.bool (Instr.missingMethod #[("Error", 95)] (ms 60)).isNone)) w := by kernel_rfl
theorem asg_duration_error (w : World) : (callFunc 192 #[.pointer (some ⟨0, 60, none⟩), (.iface 73 (.pointer (some ⟨0, 25, none⟩)))]).run Tryr.prog w = .ok (.value (.bool false)) w := by
  rw [asgM_duration, noErr _ (by kernel_rfl)]
theorem asgM_time (w : World) : (callFunc 192 #[.pointer (some ⟨0, 63, none⟩), (.iface 73 (.pointer (some ⟨0, 25, none⟩)))]).run Tryr.prog w = .ok (.value (.bool (Instr.missingMethod #[("Error", 95)] (ms 63)).isNone)) w := by kernel_rfl
theorem asg_time_error (w : World) : (callFunc 192 #[.pointer (some ⟨0, 63, none⟩), (.iface 73 (.pointer (some ⟨0, 25, none⟩)))]).run Tryr.prog w = .ok (.value (.bool false)) w := by
  rw [asgM_time, noErr _ (by kernel_rfl)]
theorem asgM_anys (w : World) : (callFunc 192 #[.pointer (some ⟨0, 64, none⟩), (.iface 73 (.pointer (some ⟨0, 25, none⟩)))]).run Tryr.prog w = .ok (.value (.bool (Instr.missingMethod #[("Error", 95)] (ms 64)).isNone)) w := by kernel_rfl
theorem asg_anys_error (w : World) : (callFunc 192 #[.pointer (some ⟨0, 64, none⟩), (.iface 73 (.pointer (some ⟨0, 25, none⟩)))]).run Tryr.prog w = .ok (.value (.bool false)) w := by
  rw [asgM_anys, noErr _ (by kernel_rfl)]
theorem asgM_ints (w : World) : (callFunc 192 #[.pointer (some ⟨0, 65, none⟩), (.iface 73 (.pointer (some ⟨0, 25, none⟩)))]).run Tryr.prog w = .ok (.value (.bool (Instr.missingMethod #[("Error", 95)] (ms 65)).isNone)) w := by kernel_rfl
theorem asg_ints_error (w : World) : (callFunc 192 #[.pointer (some ⟨0, 65, none⟩), (.iface 73 (.pointer (some ⟨0, 25, none⟩)))]).run Tryr.prog w = .ok (.value (.bool false)) w := by
  rw [asgM_ints, noErr _ (by kernel_rfl)]
theorem asgM_map (w : World) : (callFunc 192 #[.pointer (some ⟨0, 69, none⟩), (.iface 73 (.pointer (some ⟨0, 25, none⟩)))]).run Tryr.prog w = .ok (.value (.bool (Instr.missingMethod #[("Error", 95)] (ms 69)).isNone)) w := by kernel_rfl
theorem asg_map_error (w : World) : (callFunc 192 #[.pointer (some ⟨0, 69, none⟩), (.iface 73 (.pointer (some ⟨0, 25, none⟩)))]).run Tryr.prog w = .ok (.value (.bool false)) w := by
  rw [asgM_map, noErr _ (by kernel_rfl)]
theorem asgM_month (w : World) : (callFunc 192 #[.pointer (some ⟨0, 70, none⟩), (.iface 73 (.pointer (some ⟨0, 25, none⟩)))]).run Tryr.prog w = .ok (.value (.bool (Instr.missingMethod #[("Error", 95)] (ms 70)).isNone)) w := by kernel_rfl
theorem asg_month_error (w : World) : (callFunc 192 #[.pointer (some ⟨0, 70, none⟩), (.iface 73 (.pointer (some ⟨0, 25, none⟩)))]).run Tryr.prog w = .ok (.value (.bool false)) w := by
  rw [asgM_month, noErr _ (by kernel_rfl)]
theorem asgM_ptr (w : World) : (callFunc 192 #[.pointer (some ⟨0, 71, none⟩), (.iface 73 (.pointer (some ⟨0, 25, none⟩)))]).run Tryr.prog w = .ok (.value (.bool (Instr.missingMethod #[("Error", 95)] (ms 71)).isNone)) w := by kernel_rfl
theorem asg_ptr_error (w : World) : (callFunc 192 #[.pointer (some ⟨0, 71, none⟩), (.iface 73 (.pointer (some ⟨0, 25, none⟩)))]).run Tryr.prog w = .ok (.value (.bool false)) w := by
  rw [asgM_ptr, noErr _ (by kernel_rfl)]
def pairs : List (Nat × Nat) := [(6, 6), (7, 7), (13, 13), (14, 14), (15, 15), (16, 16), (15, 2), (2, 15), (3, 8), (8, 3), (2, 13), (3, 13), (4, 13), (5, 13), (6, 13), (7, 13), (8, 13), (9, 13), (10, 13), (11, 13), (14, 13), (15, 13), (16, 13)]
theorem needs : ∀ a b : Fin 17, earlyB (nt a.val) (nt b.val) = false → kindB (nt a.val) (nt b.val) = true → (a.val, b.val) ∈ pairs := by decide +kernel
theorem ones : ∀ a : Fin 17, oneB (nt a.val) = true := by decide +kernel
def wildB (a : Nat) : Bool := a == 0 || a == 1 || a == 12
def clsZ (a : Nat) : Int := if 2 ≤ a ∧ a ≤ 5 then 1 else if a = 10 ∨ a = 11 then 2 else 100 + a
theorem table : ∀ a b : Fin 17, cmpB (nt a.val) (nt b.val) = (wildB a.val || wildB b.val || clsZ a.val == clsZ b.val) := by decide +kernel
theorem symm : ∀ a b : Fin 17, cmpB (nt b.val) (nt a.val) = cmpB (nt a.val) (nt b.val) := by decide +kernel
theorem refl : ∀ a : Fin 17, cmpB (nt a.val) (nt a.val) = true ∧ cmpB (nt a.val) (nt 0) = true ∧ cmpB (nt 0) (nt a.val) = true ∧ cmpB (nt a.val) (nt 1) = true ∧ cmpB (nt 1) (nt a.val) = true := by decide +kernel
theorem asgF (a b : Nat) (ha : a < 17) (hb : b < 17) (t t' : Nat) (ht : (nt a).ty = some t) (ht' : (nt b).ty = some t') (he : earlyB (nt a) (nt b) = false) (hk : kindB (nt a) (nt b) = true) (w : World) :
    (callFunc 192 #[.pointer (some ⟨0, t, none⟩), (.iface 73 (.pointer (some ⟨0, t', none⟩)))]).run Tryr.prog w = .ok (.value (.bool (t == t'))) w := by
  have h : (a, b) ∈ pairs := needs ⟨a, ha⟩ ⟨b, hb⟩ he hk
  simp only [pairs, List.mem_cons, List.not_mem_nil, or_false, Prod.mk.injEq] at h
  rcases h with ⟨rfl, rfl⟩ | ⟨rfl, rfl⟩ | ⟨rfl, rfl⟩ | ⟨rfl, rfl⟩ | ⟨rfl, rfl⟩ | ⟨rfl, rfl⟩ | ⟨rfl, rfl⟩ | ⟨rfl, rfl⟩ | ⟨rfl, rfl⟩ | ⟨rfl, rfl⟩ | ⟨rfl, rfl⟩ | ⟨rfl, rfl⟩ | ⟨rfl, rfl⟩ | ⟨rfl, rfl⟩ | ⟨rfl, rfl⟩ | ⟨rfl, rfl⟩ | ⟨rfl, rfl⟩ | ⟨rfl, rfl⟩ | ⟨rfl, rfl⟩ | ⟨rfl, rfl⟩ | ⟨rfl, rfl⟩ | ⟨rfl, rfl⟩ | ⟨rfl, rfl⟩
  · cases ht; cases ht'; exact asg_string_string w
  · cases ht; cases ht'; exact asg_bool_bool w
  · cases ht; cases ht'; exact asg_error_error w
  · cases ht; cases ht'; exact asg_map_map w
  · cases ht; cases ht'; exact asg_month_month w
  · cases ht; cases ht'; exact asg_ptr_ptr w
  · cases ht; cases ht'; exact asg_month_int w
  · cases ht; cases ht'; exact asg_int_month w
  · cases ht; cases ht'; exact asg_int64_duration w
  · cases ht; cases ht'; exact asg_duration_int64 w
  · cases ht; cases ht'; exact asg_int_error w
  · cases ht; cases ht'; exact asg_int64_error w
  · cases ht; cases ht'; exact asg_uint8_error w
  · cases ht; cases ht'; exact asg_float64_error w
  · cases ht; cases ht'; exact asg_string_error w
  · cases ht; cases ht'; exact asg_bool_error w
  · cases ht; cases ht'; exact asg_duration_error w
  · cases ht; cases ht'; exact asg_time_error w
  · cases ht; cases ht'; exact asg_anys_error w
  · cases ht; cases ht'; exact asg_ints_error w
  · cases ht; cases ht'; exact asg_map_error w
  · cases ht; cases ht'; exact asg_month_error w
  · cases ht; cases ht'; exact asg_ptr_error w
theorem fine (a : Nat) (ha : a < 17) (td : Value) (h9 : a ≠ 9 → td = .pointer none) : Fine (nt a) td := by
  have h : a = 0 ∨ a = 1 ∨ a = 2 ∨ a = 3 ∨ a = 4 ∨ a = 5 ∨ a = 6 ∨ a = 7 ∨ a = 8 ∨ a = 9 ∨ a = 10 ∨ a = 11 ∨ a = 12 ∨ a = 13 ∨ a = 14 ∨ a = 15 ∨ a = 16 := by omega
  rcases h with rfl | rfl | rfl | rfl | rfl | rfl | rfl | rfl | rfl | rfl | rfl | rfl | rfl | rfl | rfl | rfl | rfl
  · exact ⟨fun h => absurd h (by decide), fun h => absurd h (by decide)⟩
  · exact ⟨fun h => absurd h (by decide), fun h => absurd h (by decide)⟩
  · exact ⟨fun h => absurd h (by decide), fun h => absurd h (by decide)⟩
  · exact ⟨fun h => absurd h (by decide), fun h => absurd h (by decide)⟩
  · exact ⟨fun h => absurd h (by decide), fun h => absurd h (by decide)⟩
  · exact ⟨fun h => absurd h (by decide), fun h => absurd h (by decide)⟩
  · exact ⟨fun h => absurd h (by decide), fun h => absurd h (by decide)⟩
  · exact ⟨fun h => absurd h (by decide), fun h => absurd h (by decide)⟩
  · exact ⟨fun h => absurd h (by decide), fun h => absurd h (by decide)⟩
  · exact ⟨fun h => absurd h (by decide), fun h => absurd h (by decide)⟩
  · exact ⟨fun h => absurd h (by decide), fun h => absurd h (by decide)⟩
  · exact ⟨fun h => absurd h (by decide), fun h => absurd h (by decide)⟩
  · exact ⟨fun _ => ⟨.inl rfl, h9 (by decide)⟩, fun _ => rfl⟩
  · exact ⟨fun _ => ⟨.inr rfl, h9 (by decide)⟩, fun h => absurd h (by decide)⟩
  · exact ⟨fun h => absurd h (by decide), fun h => absurd h (by decide)⟩
  · exact ⟨fun h => absurd h (by decide), fun h => absurd h (by decide)⟩
  · exact ⟨fun h => absurd h (by decide), fun h => absurd h (by decide)⟩
/-- ComparableTo over the table -/
theorem cmpN {B c b : Nat} {w : World} {s : MS} {v td td' : Value} (i j : Nat) (hi : i < 17) (hj : j < 17) (hc : CacheAt B w c s v) (h : Has w b (nt i) td) (h9 : i ≠ 9 → td = .pointer none) (h9' : j ≠ 9 → td' = .pointer none) (hB : B ≤ w.heap.size) :
    Calls Tryr.prog 6 #[.pointer (some ⟨b, 0, none⟩), .pointer (some ⟨c, 0, none⟩), (.agg #[tyV (nt j).ty, .int .u64 (nt j).k, td', .pointer none, .bool (nt j).nl, .bool false, .bool false, .bool (nt j).i, .bool (nt j).f])] w fun e w' => e = .returned (.bool (cmpB (nt i) (nt j))) ∧ ∃ s' v', CacheAt B w' c s' v' ∧ Turned B w w' :=
  comparable hc h (fine i hi td h9) (fine j hj td' h9') hB (ones ⟨i, hi⟩) fun t t' ht ht' he hk w => asgF i j hi hj t t' ht ht' he hk w
theorem CacheAt.grow {B c : Nat} {w w' : World} {s : MS} {v : Value} (h : CacheAt B w c s v) (k : Below w.heap.size w w') : CacheAt B w' c s v := h.heap fun b _ hb => (k.block b (lt_of hb)).trans hb
theorem Has.grow {w w' : World} {b : Nat} {n : Nt} {td : Value} (h : Has w b n td) (k : Below w.heap.size w w') : Has w' b n td := (k.block b (lt_of h)).trans h
theorem Has.alloc {w : World} {b : Nat} {n : Nt} {td : Value} (o : Obj) (h : Has w b n td) : Has (w.alloc o) b n td := h_old o h
theorem wild (i : Nat) (hi : i < 17) (w : World) : Calls Tryr.prog 7 #[.int .i64 i] w fun e w' => e = .returned (.bool (wildB i)) ∧ w' = w := by
  have h : i = 0 ∨ i = 1 ∨ i = 2 ∨ i = 3 ∨ i = 4 ∨ i = 5 ∨ i = 6 ∨ i = 7 ∨ i = 8 ∨ i = 9 ∨ i = 10 ∨ i = 11 ∨ i = 12 ∨ i = 13 ∨ i = 14 ∨ i = 15 ∨ i = 16 := by omega
  rcases h with rfl | rfl | rfl | rfl | rfl | rfl | rfl | rfl | rfl | rfl | rfl | rfl | rfl | rfl | rfl | rfl | rfl
  all_goals
    go_enter Tryr.func7, Tryr.ntmps7
    go_wp2
    go_ret
    exact ⟨rfl, rfl⟩
theorem cls (i : Nat) (hi : i < 17) (w : World) : Calls Tryr.prog 8 #[.int .i64 i] w fun e w' => e = .returned (.int .i64 (clsZ i)) ∧ w' = w := by
  have h : i = 0 ∨ i = 1 ∨ i = 2 ∨ i = 3 ∨ i = 4 ∨ i = 5 ∨ i = 6 ∨ i = 7 ∨ i = 8 ∨ i = 9 ∨ i = 10 ∨ i = 11 ∨ i = 12 ∨ i = 13 ∨ i = 14 ∨ i = 15 ∨ i = 16 := by omega
  rcases h with rfl | rfl | rfl | rfl | rfl | rfl | rfl | rfl | rfl | rfl | rfl | rfl | rfl | rfl | rfl | rfl | rfl
  all_goals
    go_enter Tryr.func8, Tryr.ntmps8
    go_wp2
    go_ret
    exact ⟨rfl, rfl⟩
theorem storeT (o : Option Nat) (a : Addr) (w : World) : (store a (tyV o)).run Tryr.prog w = stored Tryr.prog w a (tyV o) .plain := run_store _ w a _ _ (by cases o <;> rfl)
end Go.Proofs.YtmpppalkbgfpcaaRefl.nat
