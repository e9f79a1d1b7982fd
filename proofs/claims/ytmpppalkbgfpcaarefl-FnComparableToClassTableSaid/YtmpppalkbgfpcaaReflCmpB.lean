/-
What a nature's own questions answer over this cut: IsNumber, IsDuration, IsTime, IsArray, AssignableTo. No condition.
-/
import Derived.Test.YtmpppalkbgfpcaaReflCmpA
namespace Go.Proofs.YtmpppalkbgfpcaaRefl.nat
open Go Go.Proofs Go.RowKit
set_option maxRecDepth 100000
set_option maxHeartbeats 1000000
theorem durT (w : World) : Calls Tryr.prog 36 #[] w fun e w' => e = .returned (.iface 73 (.pointer (some ⟨0, 60, none⟩))) ∧ w' = w := by
  have g := typeOf
  go_enter Tryr.func36, Tryr.ntmps36
  go_wp2
  go_ret
  exact ⟨rfl, rfl⟩
theorem timT (w : World) : Calls Tryr.prog 37 #[] w fun e w' => e = .returned (.iface 73 (.pointer (some ⟨0, 63, none⟩))) ∧ w' = w := by
  have g := typeOf
  go_enter Tryr.func37, Tryr.ntmps37
  go_wp2
  go_ret
  exact ⟨rfl, rfl⟩
theorem isDuration (b t : Nat) (w : World) (c0 : w.cell? ⟨b, 0, none⟩ = some (.iface 73 (.pointer (some ⟨0, t, none⟩)))) :
    Calls Tryr.prog 28 #[.pointer (some ⟨b, 0, none⟩)] w fun e w' => e = .returned (.bool (t == 60)) ∧ w' = w.drew := by
  have g := eql
  go_enter Tryr.func28, Tryr.ntmps28
  go_wp2
  go_region_with (first | (go_at_call 36; refine (durT _).mono ?_; rintro e w1 ⟨rfl, rfl⟩))
  all_goals
    go_wp2
    go_ret
    exact ⟨rfl, rfl⟩
theorem isTime (b t : Nat) (w : World) (c0 : w.cell? ⟨b, 0, none⟩ = some (.iface 73 (.pointer (some ⟨0, t, none⟩)))) :
    Calls Tryr.prog 29 #[.pointer (some ⟨b, 0, none⟩)] w fun e w' => e = .returned (.bool (t == 63)) ∧ w' = w.drew := by
  have g := eql
  go_enter Tryr.func29, Tryr.ntmps29
  go_wp2
  go_region_with (first | (go_at_call 37; refine (timT _).mono ?_; rintro e w1 ⟨rfl, rfl⟩))
  all_goals
    go_wp2
    go_ret
    exact ⟨rfl, rfl⟩
theorem isArray (b k : Nat) (w : World) (c1 : w.cell? ⟨b, 1, none⟩ = some (.int .u64 k)) :
    Calls Tryr.prog 30 #[.pointer (some ⟨b, 0, none⟩)] w fun e w' => e = .returned (.bool (((k : Int) == 23) || ((k : Int) == 17))) ∧ w' = w := by
  cases h1 : ((k : Int) == 23)
  · cases h2 : ((k : Int) == 17)
    · skip
      go_enter Tryr.func30, Tryr.ntmps30
      go_wp2
      go_ret
      exact ⟨rfl, rfl⟩
    · skip
      go_enter Tryr.func30, Tryr.ntmps30
      go_wp2
      go_ret
      exact ⟨rfl, rfl⟩
  · skip
    go_enter Tryr.func30, Tryr.ntmps30
    go_wp2
    go_ret
    exact ⟨rfl, rfl⟩
theorem isNumber (b : Nat) (i f : Bool) (w : World) (h7 : w.cell? ⟨b, 7, none⟩ = some (.bool i)) (h8 : w.cell? ⟨b, 8, none⟩ = some (.bool f)) :
    Calls Tryr.prog 27 #[.pointer (some ⟨b, 0, none⟩)] w fun e w' => e = .returned (.bool (i || f)) ∧ w' = w := by
  go_enter Tryr.func27, Tryr.ntmps27
  cases i <;> cases f <;> (go_wp2; go_ret; exact ⟨rfl, rfl⟩)
theorem up {w : World} {a : Addr} {v : Value} {o : Obj} (h : w.cell? a = some v) : (w.alloc o).cell? a = some v := by
  rw [World.cell?_alloc_lt _ _ _ (World.block_lt_of_cell? w _ h)]; exact h
/-- AssignableTo where the kinds differ and the other's is no interface -/
theorem asg_kind (b t k t' k' : Nat) (td' : Value) (nl' i' f' : Bool) (w : World) (c0 : w.cell? ⟨b, 0, none⟩ = some (.iface 73 (.pointer (some ⟨0, t, none⟩)))) (c1 : w.cell? ⟨b, 1, none⟩ = some (.int .u64 k)) (c4 : w.cell? ⟨b, 4, none⟩ = some (.bool false))
    (hk : ((k : Int) == k') = false) (hk' : ((k' : Int) == 20) = false) :
    Calls Tryr.prog 31 #[.pointer (some ⟨b, 0, none⟩), (.agg #[(.iface 73 (.pointer (some ⟨0, t', none⟩))), .int .u64 k', td', .pointer none, .bool nl', .bool false, .bool false, .bool i', .bool f'])] w fun e w' => e = .returned (.bool false) ∧ w' = (w.alloc (.cells #[(.iface 73 (.pointer (some ⟨0, t', none⟩))), .int .u64 k', td', .pointer none, .bool nl', .bool false, .bool false, .bool i', .bool f'] 47)).drew := by
  have hn1 : (k == k') = false := by rw [beq_eq_false_iff_ne] at hk ⊢; omega
  have hn2 : ¬ k = k' := by rw [beq_eq_false_iff_ne] at hk; omega
  have hn3 : ¬ ((k : Int) = k') := by rw [beq_eq_false_iff_ne] at hk; omega
  have hn4 : ¬ ((k' : Int) = 20) := by rw [beq_eq_false_iff_ne] at hk'; omega
  have hn5 : ¬ k' = 20 := by omega
  have hn6 : (k' == 20) = false := by rw [beq_eq_false_iff_ne]; omega
  have hn7 : ((k : Int) != k') = true := by simp [bne, hk]
  have hn8 : ((k' : Int) != 20) = true := by simp [bne, hk']
  have d0 : (w.alloc (.cells #[(.iface 73 (.pointer (some ⟨0, t', none⟩))), .int .u64 k', td', .pointer none, .bool nl', .bool false, .bool false, .bool i', .bool f'] 47)).cell? _ = _ := up c0
  have d1 : (w.alloc (.cells #[(.iface 73 (.pointer (some ⟨0, t', none⟩))), .int .u64 k', td', .pointer none, .bool nl', .bool false, .bool false, .bool i', .bool f'] 47)).cell? _ = _ := up c1
  have d4 : (w.alloc (.cells #[(.iface 73 (.pointer (some ⟨0, t', none⟩))), .int .u64 k', td', .pointer none, .bool nl', .bool false, .bool false, .bool i', .bool f'] 47)).cell? _ = _ := up c4
  go_enter Tryr.func31, Tryr.ntmps31
  go_wp2
  go_region
  all_goals
    go_wp2
    go_ret
    exact ⟨rfl, rfl⟩
/-- AssignableTo where the kinds are one: reflect decides -/
theorem asg_same (b t k t' : Nat) (td' : Value) (nl' i' f' r : Bool) (w : World) (c0 : w.cell? ⟨b, 0, none⟩ = some (.iface 73 (.pointer (some ⟨0, t, none⟩)))) (c1 : w.cell? ⟨b, 1, none⟩ = some (.int .u64 k)) (c4 : w.cell? ⟨b, 4, none⟩ = some (.bool false))
    (hr : ∀ w : World, (callFunc 192 #[.pointer (some ⟨0, t, none⟩), (.iface 73 (.pointer (some ⟨0, t', none⟩)))]).run Tryr.prog w = .ok (.value (.bool r)) w) :
    Calls Tryr.prog 31 #[.pointer (some ⟨b, 0, none⟩), (.agg #[(.iface 73 (.pointer (some ⟨0, t', none⟩))), .int .u64 k, td', .pointer none, .bool nl', .bool false, .bool false, .bool i', .bool f'])] w fun e w' => e = .returned (.bool r) ∧ w' = (w.alloc (.cells #[(.iface 73 (.pointer (some ⟨0, t', none⟩))), .int .u64 k, td', .pointer none, .bool nl', .bool false, .bool false, .bool i', .bool f'] 47)).drew.drew := by
  have hn1 : (k == k) = true := by simp
  have hn2 : ((k : Int) == k) = true := by simp
  have hn3 : ((k : Int) != k) = false := by simp
  have d0 : (w.alloc (.cells #[(.iface 73 (.pointer (some ⟨0, t', none⟩))), .int .u64 k, td', .pointer none, .bool nl', .bool false, .bool false, .bool i', .bool f'] 47)).cell? _ = _ := up c0
  have d1 : (w.alloc (.cells #[(.iface 73 (.pointer (some ⟨0, t', none⟩))), .int .u64 k, td', .pointer none, .bool nl', .bool false, .bool false, .bool i', .bool f'] 47)).cell? _ = _ := up c1
  have d4 : (w.alloc (.cells #[(.iface 73 (.pointer (some ⟨0, t', none⟩))), .int .u64 k, td', .pointer none, .bool nl', .bool false, .bool false, .bool i', .bool f'] 47)).cell? _ = _ := up c4
  go_enter Tryr.func31, Tryr.ntmps31
  go_wp2
  go_region
  all_goals
    go_wp2
    go_region_with fail
    all_goals
      go_wp2
      go_ret
      exact ⟨rfl, rfl⟩
/-- AssignableTo to an interface: reflect decides -/
theorem asg_iface (b t k t' k' : Nat) (td' : Value) (nl' i' f' r : Bool) (w : World) (c0 : w.cell? ⟨b, 0, none⟩ = some (.iface 73 (.pointer (some ⟨0, t, none⟩)))) (c1 : w.cell? ⟨b, 1, none⟩ = some (.int .u64 k)) (c4 : w.cell? ⟨b, 4, none⟩ = some (.bool false))
    (hk : ((k : Int) == k') = false) (hk' : ((k' : Int) == 20) = true)
    (hr : ∀ w : World, (callFunc 192 #[.pointer (some ⟨0, t, none⟩), (.iface 73 (.pointer (some ⟨0, t', none⟩)))]).run Tryr.prog w = .ok (.value (.bool r)) w) :
    Calls Tryr.prog 31 #[.pointer (some ⟨b, 0, none⟩), (.agg #[(.iface 73 (.pointer (some ⟨0, t', none⟩))), .int .u64 k', td', .pointer none, .bool nl', .bool false, .bool false, .bool i', .bool f'])] w fun e w' => e = .returned (.bool r) ∧ w' = (w.alloc (.cells #[(.iface 73 (.pointer (some ⟨0, t', none⟩))), .int .u64 k', td', .pointer none, .bool nl', .bool false, .bool false, .bool i', .bool f'] 47)).drew.drew := by
  have hn1 : (k == k') = false := by rw [beq_eq_false_iff_ne] at hk ⊢; omega
  have hn2 : ¬ k = k' := by rw [beq_eq_false_iff_ne] at hk; omega
  have hn3 : ¬ ((k : Int) = k') := by rw [beq_eq_false_iff_ne] at hk; omega
  have hn7 : ((k : Int) != k') = true := by simp [bne, hk]
  have hn8 : ((k' : Int) != 20) = false := by simp [bne, hk']
  have d0 : (w.alloc (.cells #[(.iface 73 (.pointer (some ⟨0, t', none⟩))), .int .u64 k', td', .pointer none, .bool nl', .bool false, .bool false, .bool i', .bool f'] 47)).cell? _ = _ := up c0
  have d1 : (w.alloc (.cells #[(.iface 73 (.pointer (some ⟨0, t', none⟩))), .int .u64 k', td', .pointer none, .bool nl', .bool false, .bool false, .bool i', .bool f'] 47)).cell? _ = _ := up c1
  have d4 : (w.alloc (.cells #[(.iface 73 (.pointer (some ⟨0, t', none⟩))), .int .u64 k', td', .pointer none, .bool nl', .bool false, .bool false, .bool i', .bool f'] 47)).cell? _ = _ := up c4
  go_enter Tryr.func31, Tryr.ntmps31
  go_wp2
  go_region
  all_goals
    go_wp2
    go_region_with fail
    all_goals
      go_wp2
      go_ret
      exact ⟨rfl, rfl⟩
end Go.Proofs.YtmpppalkbgfpcaaRefl.nat
