/-
The patch that copies a type, and the tags of types, over this cut. No condition.
-/
import Derived.Test.YtiddjmnknndcaaaReflFmtOptC
import Derived.Deep.RegionWith
namespace Go.Proofs.YtiddjmnknndcaaaReflFmt.opt
open Go Go.Proofs Go.RowKit
set_option maxRecDepth 100000
set_option maxHeartbeats 1000000
theorem patchW {T1 T2 : Nat} (hT1 : IsNode T1) (hT2 : IsNode T2) (r b1 b2 u1 u2 S1 S2 : Nat) (f1 f2 : Array Value) (w : World) (hr : w.heap[r]? = some (.cells #[(.iface T1 (.pointer (some ⟨b1, 0, none⟩)))] 45 (0, 0)))
    (h1 : w.heap[b1]? = some (.cells (nodeC u1 f1) S1 (0, 0))) (h2 : w.heap[b2]? = some (.cells (nodeC u2 f2) S2 (0, 0))) :
    Calls Tryr.prog 38 #[(.pointer (some ⟨r, 0, none⟩)), (.iface T2 (.pointer (some ⟨b2, 0, none⟩)))] w fun e w' => e = .returned (.tuple #[]) ∧ But (fun k => k = r) w w' ∧ w'.heap[r]? = some (.cells #[(.iface T2 (.pointer (some ⟨b2, 0, none⟩)))] 45 (0, 0)) := by
  have m1 := mLocation hT1 b1
  have m2 := mSetLocation hT2 b2
  have n2 := nSetLocation hT2 b2
  have hd1 : w.drew.heap[b1]? = some (.cells (nodeC u1 f1) S1 (0, 0)) := h1
  have hd2 : w.drew.heap[b2]? = some (.cells (nodeC u2 f2) S2 (0, 0)) := h2
  have cr : w.cell? ⟨r, 0, none⟩ = some (.iface T1 (.pointer (some ⟨b1, 0, none⟩))) := cell_of hr rfl
  have fr := frozen_of hr (j := 0)
  have l1 := lt_of hr
  go_enter Tryr.func38, Tryr.ntmps38
  go_wp2
  go_region_with (first | (go_at_call 82; refine (locW b1 u1 S1 f1 _ hd1).mono ?_; rintro e w1 ⟨rfl, rfl⟩) | (go_at_call 84; refine (setLocW b2 u2 S2 f2 _ (h_old _ hd2)).mono ?_; rintro e w1 ⟨rfl, rfl⟩))
  all_goals
    go_wp2
    go_returns
    exact ⟨rfl, ((((But.refl (fun k => k = r) w).setCell rfl _).alloc _).alloc _).drew, h_old _ (h_old _ (h_set _ hr))⟩
theorem ans_ge (u : Nat) : 1 ≤ ans u := by unfold ans; split <;> omega
theorem ans_le (u : Nat) (h : u ≤ 5) : ans u ≤ 5 := by unfold ans; split <;> omega
theorem copyW {T1 T2 : Nat} (hT1 : IsNode T1) (hT2 : IsNode T2) (r b1 b2 u1 u2 S1 S2 : Nat) (h5 : u1 ≤ 5) (f1 f2 : Array Value) (w : World) (hr : w.heap[r]? = some (.cells #[(.iface T1 (.pointer (some ⟨b1, 0, none⟩)))] 45 (0, 0)))
    (h1 : w.heap[b1]? = some (.cells (nodeC u1 f1) S1 (0, 0))) (h2 : w.heap[b2]? = some (.cells (nodeC u2 f2) S2 (0, 0))) (n12 : b1 ≠ b2) (nr2 : r ≠ b2) :
    Calls Tryr.prog 33 #[(.pointer (some ⟨r, 0, none⟩)), (.iface T2 (.pointer (some ⟨b2, 0, none⟩)))] w fun e w' => e = .returned (.tuple #[]) ∧ But (fun k => k = b2 ∨ k = r) w w' ∧ w'.heap[b2]? = some (.cells (nodeC (ans u1) f2) S2 (0, 0)) ∧ w'.heap[r]? = some (.cells #[(.iface T2 (.pointer (some ⟨b2, 0, none⟩)))] 45 (0, 0)) := by
  have m1 := mType hT1 b1
  have m2 := mSetType hT2 b2
  have cr := cell_of hr (j := 0) rfl
  go_enter Tryr.func33, Tryr.ntmps33
  go_wp2_with fail
  refine (typeW b1 u1 S1 f1 _ h1).mono ?_
  rintro e w1 ⟨rfl, hw1⟩
  have k1 : But (fun _ => False) w w1 := by
    rcases hw1 with rfl | ⟨o, rfl⟩
    · exact But.refl _ _
    · exact (But.refl _ _).alloc _
  clear hw1 cr
  have hr1 := k1.keep id hr
  have h11 := k1.keep id h1
  have h21 := k1.keep id h2
  go_wp2_with fail
  refine (setTypeW b2 u2 (ans u1) S2 (ans_ge u1) (ans_le u1 h5) f2 _ h21).mono ?_
  rintro e w2 ⟨rfl, rfl⟩
  have k2 : But (fun k => k = b2) w1 (((w1.alloc (.cells (natC (ans u1)) 66)).alloc (.cells (natC (ans u1)) 66)).setRow b2 (nodeC (ans u1) f2)) := (((But.refl (fun k => k = b2) _).alloc _).alloc _).setRow rfl _
  have h22 := setRow_heap _ b2 _ (nodeC (ans u1) f2) S2 (0, 0) (h_old (.cells (natC (ans u1)) 66) (h_old (.cells (natC (ans u1)) 66) h21))
  have hr2 := k2.keep nr2 hr1
  have h12 := k2.keep n12 h11
  generalize ((w1.alloc (.cells (natC (ans u1)) 66)).alloc (.cells (natC (ans u1)) 66)).setRow b2 (nodeC (ans u1) f2) = w2 at k2 h22 hr2 h12
  go_wp2_with fail
  refine (patchW hT1 hT2 r b1 b2 u1 (ans u1) S1 S2 f1 f2 _ hr2 h12 h22).mono ?_
  rintro e w3 ⟨rfl, k3, hr3⟩
  go_wp2
  go_returns
  refine ⟨rfl, ?_, ?_, ?_⟩
  · exact ((k1.mono (fun _ h => h.elim)).trans (k2.mono (fun _ h => .inl h))).trans (k3.mono (fun _ h => .inr h))
  · exact k3.keep (fun e => nr2 e.symm) h22
  · exact hr3
theorem boolType (w : World) : Calls Tryr.prog 23 #[] w fun e w' => e = .returned (.iface 101 (.pointer (some ⟨3, 4, none⟩))) ∧ w' = w := by
  have g := typeOf
  go_enter Tryr.func23, Tryr.ntmps23
  go_wp2
  go_ret
  exact ⟨rfl, rfl⟩
theorem integerType (w : World) : Calls Tryr.prog 25 #[] w fun e w' => e = .returned (.iface 101 (.pointer (some ⟨3, 3, none⟩))) ∧ w' = w := by
  have g := typeOf
  go_enter Tryr.func25, Tryr.ntmps25
  go_wp2
  go_ret
  exact ⟨rfl, rfl⟩
theorem floatType (w : World) : Calls Tryr.prog 26 #[] w fun e w' => e = .returned (.iface 101 (.pointer (some ⟨3, 27, none⟩))) ∧ w' = w := by
  have g := typeOf
  go_enter Tryr.func26, Tryr.ntmps26
  go_wp2
  go_ret
  exact ⟨rfl, rfl⟩
theorem stringType (w : World) : Calls Tryr.prog 27 #[] w fun e w' => e = .returned (.iface 101 (.pointer (some ⟨3, 9, none⟩))) ∧ w' = w := by
  have g := typeOf
  go_enter Tryr.func27, Tryr.ntmps27
  go_wp2
  go_ret
  exact ⟨rfl, rfl⟩
theorem typeOfTag0 (w : World) : Calls Tryr.prog 28 #[.int .i64 0] w fun e w' => e = .returned .nilIface ∧ w' = w := by
  go_enter Tryr.func28, Tryr.ntmps28
  go_wp2
  go_ret
  exact ⟨rfl, rfl⟩
theorem typeOfTag (u : Nat) (h1 : 1 ≤ u) (h4 : u ≤ 4) (w : World) : Calls Tryr.prog 28 #[.int .i64 u] w fun e w' => e = .returned (tyV u) ∧ w' = w := by
  match u, h1, h4 with
  | 1, _, _ =>
    go_enter Tryr.func28, Tryr.ntmps28
    go_wp2_with fail
    refine (boolType _).mono ?_
    rintro e w1 ⟨rfl, rfl⟩
    go_wp2
    go_ret
    exact ⟨rfl, rfl⟩
  | 2, _, _ =>
    go_enter Tryr.func28, Tryr.ntmps28
    go_wp2_with fail
    refine (integerType _).mono ?_
    rintro e w1 ⟨rfl, rfl⟩
    go_wp2
    go_ret
    exact ⟨rfl, rfl⟩
  | 3, _, _ =>
    go_enter Tryr.func28, Tryr.ntmps28
    go_wp2_with fail
    refine (floatType _).mono ?_
    rintro e w1 ⟨rfl, rfl⟩
    go_wp2
    go_ret
    exact ⟨rfl, rfl⟩
  | 4, _, _ =>
    go_enter Tryr.func28, Tryr.ntmps28
    go_wp2_with fail
    refine (stringType _).mono ?_
    rintro e w1 ⟨rfl, rfl⟩
    go_wp2
    go_ret
    exact ⟨rfl, rfl⟩
theorem setTag {T : Nat} (hT : IsNode T) (b u ST : Nat) (h4 : u ≤ 4) (fs : Array Value) (w : World) (h : w.heap[b]? = some (.cells (nodeC 0 fs) ST (0, 0))) :
    Calls Tryr.prog 21 #[(.iface T (.pointer (some ⟨b, 0, none⟩))), .int .i64 u] w fun e w' => e = .returned (.tuple #[]) ∧ But (fun k => k = b) w w' ∧ w'.heap[b]? = some (.cells (nodeC u fs) ST (0, 0)) := by
  have m2 := mSetType hT b
  cases u with
  | zero =>
    go_enter Tryr.func21, Tryr.ntmps21
    go_wp2_with fail
    refine (typeOfTag0 _).mono ?_
    rintro e w1 ⟨rfl, rfl⟩
    go_wp2
    go_returns
    exact ⟨rfl, But.refl _ _, h⟩
  | succ t =>
    go_enter Tryr.func21, Tryr.ntmps21
    go_wp2_with fail
    refine (typeOfTag (t + 1) (by omega) h4 _).mono ?_
    rintro e w1 ⟨rfl, rfl⟩
    unfold tyV
    go_wp2_with fail
    refine (setTypeW b 0 (t + 1) ST (by omega) (by omega) fs _ h).mono ?_
    rintro e w2 ⟨rfl, rfl⟩
    go_wp2
    go_returns
    exact ⟨rfl, (((But.refl (fun k => k = b) _).alloc _).alloc _).setRow rfl _, setRow_heap _ b _ _ ST (0, 0) (h_old _ (h_old _ h))⟩
/-- the tag that a type reads as -/
def tag (u : Nat) : Nat := if u = 5 then 0 else u
theorem typeTag {T : Nat} (hT : IsNode T) (b u ST : Nat) (h5 : u ≤ 5) (fs : Array Value) (w : World) (h : w.heap[b]? = some (.cells (nodeC u fs) ST (0, 0))) :
    Calls Tryr.prog 17 #[.agg #[(.iface T (.pointer (some ⟨b, 0, none⟩)))]] w fun e w' => e = .returned (.int .i64 (tag u)) ∧ But (fun _ => False) w w' := by
  have m1 := mType hT b
  have g1 := eql
  have g2 := numA
  have k1 := kind_bool
  have k2 := kind_int
  have k3 := kind_float64
  have k4 := kind_string
  have k5 := kind_any
  match u, h5, h with
  | 0, _, h =>
    go_enter Tryr.func17, Tryr.ntmps17
    go_wp2_with fail
    refine (typeW b 0 ST fs _ (h_old _ h)).mono ?_
    rintro e w1 ⟨rfl, hw1⟩
    have q1 : But (fun _ => False) w w1 := by
      rcases hw1 with rfl | ⟨o, rfl⟩
      · exact (But.refl _ _).alloc _
      · exact ((But.refl _ _).alloc _).alloc _
    clear hw1
    have e5 : ans 0 = 5 := rfl
    rw [e5]
    unfold tyV tyN
    go_wp2
    go_ret
    exact ⟨rfl, q1⟩
  | 1, _, h =>
    go_enter Tryr.func17, Tryr.ntmps17
    go_wp2_with fail
    refine (typeW b 1 ST fs _ (h_old _ h)).mono ?_
    rintro e w1 ⟨rfl, hw1⟩
    have q1 : But (fun _ => False) w w1 := by
      rcases hw1 with rfl | ⟨o, rfl⟩
      · exact (But.refl _ _).alloc _
      · exact ((But.refl _ _).alloc _).alloc _
    clear hw1
    have e5 : ans 1 = 1 := rfl
    rw [e5]
    unfold tyV tyN
    go_wp2_with fail
    refine (boolType _).mono ?_
    rintro e w2 ⟨rfl, rfl⟩
    go_wp2
    go_ret
    exact ⟨rfl, q1⟩
  | 2, _, h =>
    go_enter Tryr.func17, Tryr.ntmps17
    go_wp2_with fail
    refine (typeW b 2 ST fs _ (h_old _ h)).mono ?_
    rintro e w1 ⟨rfl, hw1⟩
    have q1 : But (fun _ => False) w w1 := by
      rcases hw1 with rfl | ⟨o, rfl⟩
      · exact (But.refl _ _).alloc _
      · exact ((But.refl _ _).alloc _).alloc _
    clear hw1
    have e5 : ans 2 = 2 := rfl
    rw [e5]
    unfold tyV tyN
    go_wp2_with fail
    refine (boolType _).mono ?_
    rintro e w2 ⟨rfl, rfl⟩
    go_wp2_with fail
    refine (integerType _).mono ?_
    rintro e w2 ⟨rfl, rfl⟩
    go_wp2
    go_ret
    exact ⟨rfl, q1⟩
  | 3, _, h =>
    go_enter Tryr.func17, Tryr.ntmps17
    go_wp2_with fail
    refine (typeW b 3 ST fs _ (h_old _ h)).mono ?_
    rintro e w1 ⟨rfl, hw1⟩
    have q1 : But (fun _ => False) w w1 := by
      rcases hw1 with rfl | ⟨o, rfl⟩
      · exact (But.refl _ _).alloc _
      · exact ((But.refl _ _).alloc _).alloc _
    clear hw1
    have e5 : ans 3 = 3 := rfl
    rw [e5]
    unfold tyV tyN
    go_wp2_with fail
    refine (boolType _).mono ?_
    rintro e w2 ⟨rfl, rfl⟩
    go_wp2_with fail
    refine (integerType _).mono ?_
    rintro e w2 ⟨rfl, rfl⟩
    go_wp2_with fail
    refine (floatType _).mono ?_
    rintro e w2 ⟨rfl, rfl⟩
    go_wp2
    go_ret
    exact ⟨rfl, q1⟩
  | 4, _, h =>
    go_enter Tryr.func17, Tryr.ntmps17
    go_wp2_with fail
    refine (typeW b 4 ST fs _ (h_old _ h)).mono ?_
    rintro e w1 ⟨rfl, hw1⟩
    have q1 : But (fun _ => False) w w1 := by
      rcases hw1 with rfl | ⟨o, rfl⟩
      · exact (But.refl _ _).alloc _
      · exact ((But.refl _ _).alloc _).alloc _
    clear hw1
    have e5 : ans 4 = 4 := rfl
    rw [e5]
    unfold tyV tyN
    go_wp2_with fail
    refine (boolType _).mono ?_
    rintro e w2 ⟨rfl, rfl⟩
    go_wp2_with fail
    refine (integerType _).mono ?_
    rintro e w2 ⟨rfl, rfl⟩
    go_wp2_with fail
    refine (floatType _).mono ?_
    rintro e w2 ⟨rfl, rfl⟩
    go_wp2_with fail
    refine (stringType _).mono ?_
    rintro e w2 ⟨rfl, rfl⟩
    go_wp2
    go_ret
    exact ⟨rfl, q1⟩
  | 5, _, h =>
    go_enter Tryr.func17, Tryr.ntmps17
    go_wp2_with fail
    refine (typeW b 5 ST fs _ (h_old _ h)).mono ?_
    rintro e w1 ⟨rfl, hw1⟩
    have q1 : But (fun _ => False) w w1 := by
      rcases hw1 with rfl | ⟨o, rfl⟩
      · exact (But.refl _ _).alloc _
      · exact ((But.refl _ _).alloc _).alloc _
    clear hw1
    have e5 : ans 5 = 5 := rfl
    rw [e5]
    unfold tyV tyN
    go_wp2
    go_ret
    exact ⟨rfl, q1⟩
end Go.Proofs.YtiddjmnknndcaaaReflFmt.opt
