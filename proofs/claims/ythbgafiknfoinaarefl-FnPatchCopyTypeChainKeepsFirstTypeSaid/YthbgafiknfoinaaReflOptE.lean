/-
New nodes and the patch case over this cut. No condition.
-/
import Derived.Test.YthbgafiknfoinaaReflOptD
import Derived.LaidEql
namespace Go.Proofs.YthbgafiknfoinaaRefl.opt
open Go Go.Proofs Go.RowKit
set_option maxRecDepth 100000
set_option maxHeartbeats 1000000
theorem lit1 (v : Value) : nodeC 0 #[v] = #[.int .i64 0, .int .i64 0, .nilIface, .int .u64 0, .pointer none, .pointer none, .bool false, .bool false, .bool false, .bool false, .bool false, v] := by simp [nodeC, natC]
theorem lit3 (v x y : Value) : nodeC 0 #[v, x, y] = #[.int .i64 0, .int .i64 0, .nilIface, .int .u64 0, .pointer none, .pointer none, .bool false, .bool false, .bool false, .bool false, .bool false, v, x, y] := by simp [nodeC, natC]
theorem all1 (v : Value) (h : v.oneCell' = true) : (#[v] : Array Value).all (·.oneCell') = true := by simp [h]
theorem h_new1 (w : World) (o o' : Obj) : ((w.alloc o).alloc o').heap[w.heap.size + 1]? = some o' := by
  have := h_new (w.alloc o) o'
  rwa [World.size_alloc] at this
theorem h_new2 (w : World) (o o' o2 : Obj) : (((w.alloc o).alloc o').alloc o2).heap[w.heap.size + 1 + 1]? = some o2 := by
  have := h_new ((w.alloc o).alloc o') o2
  rwa [World.size_alloc, World.size_alloc] at this
theorem h_new3 (w : World) (o o' o2 o3 : Obj) : ((((w.alloc o).alloc o').alloc o2).alloc o3).heap[w.heap.size + 1 + 1 + 1]? = some o3 := by
  have := h_new (((w.alloc o).alloc o').alloc o2) o3
  rwa [World.size_alloc, World.size_alloc, World.size_alloc] at this
theorem But.none {a w : World} (h : But (fun k => a.heap.size ≤ k) a w) : But (fun _ => False) a w := ⟨h.os, h.tape, h.output, h.size, fun k _ hk => h.block k (by omega) hk⟩
theorem infoR : (Tryr.prog.info? 40).map (·.size) = some 1 := by kernel_rfl
theorem infoP : (Tryr.prog.info? 44).map (·.size) = some 1 := by kernel_rfl
theorem newNode (k : Int) (hk : 0 ≤ k ∧ k ≤ 8) (u : Nat) (h4 : u ≤ 4) (iv : Int) (s : ByteArray) (w : World) :
    Calls Tryr.prog 5 #[.int .i64 k, .int .i64 iv, .string s, .int .i64 u] w fun e w' => ∃ (T b ST : Nat) (fs : Array Value), IsNode T ∧ e = .returned (.agg #[(.iface T (.pointer (some ⟨b, 0, none⟩)))]) ∧ w.heap.size ≤ b ∧ w'.heap[b]? = some (.cells (nodeC u fs) ST (0, 0)) ∧ But (fun _ => False) w w' := by
  have hk9 : k = 0 ∨ k = 1 ∨ k = 2 ∨ k = 3 ∨ k = 4 ∨ k = 5 ∨ k = 6 ∨ k = 7 ∨ k = 8 := by omega
  rcases hk9 with rfl | rfl | rfl | rfl | rfl | rfl | rfl | rfl | rfl
  · go_enter Tryr.func5, Tryr.ntmps5
    go_wp2_with fail
    refine (setTag (T := 50) (by unfold IsNode; omega) (w.heap.size + 1) u 63 h4 _ _ (by rw [lit1]; exact h_new1 _ _ _)).mono ?_
    rintro e w2 ⟨rfl, q2, h2⟩
    have q1 := q2.mono (S' := fun k => w.heap.size ≤ k) (by intro k hk; omega)
    have h8 := q2.keep (k := w.heap.size) (by omega) (h_old _ (h_new _ _))
    have c8 := cell_of h8 (j := 0) rfl
    have f8 := frozen_of h8 (j := 0)
    have hc : (w2.setCell ⟨w.heap.size, 0, none⟩ (.iface 50 (.pointer (some ⟨w.heap.size + 1, 0, none⟩)))).cell? ⟨w.heap.size, 0, none⟩ = some (.iface 50 (.pointer (some ⟨w.heap.size + 1, 0, none⟩))) := cell_of (h_set _ h8) rfl
    go_wp2
    try simp only [Exit.inBlock, Exit.then]
    refine bodyPost_ret (by simp [results, Tryr.results5, go_sem, hc]; try rfl) rfl ?_
    exact ⟨_, _, _, _, by unfold IsNode; omega, rfl, by omega, (h_set_ne _ (show w.heap.size + 1 ≠ w.heap.size by omega)).trans h2, ((((((But.refl _ _).alloc _).alloc _).trans q1).setCell (Nat.le_refl _) _).none)⟩
  · go_enter Tryr.func5, Tryr.ntmps5
    go_wp2_with fail
    refine (setTag (T := 64) (by unfold IsNode; omega) (w.heap.size + 1) u 66 h4 _ _ (by rw [lit1]; exact h_new1 _ _ _)).mono ?_
    rintro e w2 ⟨rfl, q2, h2⟩
    have q1 := q2.mono (S' := fun k => w.heap.size ≤ k) (by intro k hk; omega)
    have h8 := q2.keep (k := w.heap.size) (by omega) (h_old _ (h_new _ _))
    have c8 := cell_of h8 (j := 0) rfl
    have f8 := frozen_of h8 (j := 0)
    have hc : (w2.setCell ⟨w.heap.size, 0, none⟩ (.iface 64 (.pointer (some ⟨w.heap.size + 1, 0, none⟩)))).cell? ⟨w.heap.size, 0, none⟩ = some (.iface 64 (.pointer (some ⟨w.heap.size + 1, 0, none⟩))) := cell_of (h_set _ h8) rfl
    go_wp2
    try simp only [Exit.inBlock, Exit.then]
    refine bodyPost_ret (by simp [results, Tryr.results5, go_sem, hc]; try rfl) rfl ?_
    exact ⟨_, _, _, _, by unfold IsNode; omega, rfl, by omega, (h_set_ne _ (show w.heap.size + 1 ≠ w.heap.size by omega)).trans h2, ((((((But.refl _ _).alloc _).alloc _).trans q1).setCell (Nat.le_refl _) _).none)⟩
  · go_enter Tryr.func5, Tryr.ntmps5
    go_wp2_with fail
    refine (setTag (T := 67) (by unfold IsNode; omega) (w.heap.size + 1) u 69 h4 _ _ (by rw [lit1]; exact h_new1 _ _ _)).mono ?_
    rintro e w2 ⟨rfl, q2, h2⟩
    have q1 := q2.mono (S' := fun k => w.heap.size ≤ k) (by intro k hk; omega)
    have h8 := q2.keep (k := w.heap.size) (by omega) (h_old _ (h_new _ _))
    have c8 := cell_of h8 (j := 0) rfl
    have f8 := frozen_of h8 (j := 0)
    have hc : (w2.setCell ⟨w.heap.size, 0, none⟩ (.iface 67 (.pointer (some ⟨w.heap.size + 1, 0, none⟩)))).cell? ⟨w.heap.size, 0, none⟩ = some (.iface 67 (.pointer (some ⟨w.heap.size + 1, 0, none⟩))) := cell_of (h_set _ h8) rfl
    go_wp2
    try simp only [Exit.inBlock, Exit.then]
    refine bodyPost_ret (by simp [results, Tryr.results5, go_sem, hc]; try rfl) rfl ?_
    exact ⟨_, _, _, _, by unfold IsNode; omega, rfl, by omega, (h_set_ne _ (show w.heap.size + 1 ≠ w.heap.size by omega)).trans h2, ((((((But.refl _ _).alloc _).alloc _).trans q1).setCell (Nat.le_refl _) _).none)⟩
  · go_enter Tryr.func5, Tryr.ntmps5
    go_wp2_with fail
    refine (setTag (T := 70) (by unfold IsNode; omega) (w.heap.size + 1) u 72 h4 _ _ (by rw [lit1]; exact h_new1 _ _ _)).mono ?_
    rintro e w2 ⟨rfl, q2, h2⟩
    have q1 := q2.mono (S' := fun k => w.heap.size ≤ k) (by intro k hk; omega)
    have h8 := q2.keep (k := w.heap.size) (by omega) (h_old _ (h_new _ _))
    have c8 := cell_of h8 (j := 0) rfl
    have f8 := frozen_of h8 (j := 0)
    have hc : (w2.setCell ⟨w.heap.size, 0, none⟩ (.iface 70 (.pointer (some ⟨w.heap.size + 1, 0, none⟩)))).cell? ⟨w.heap.size, 0, none⟩ = some (.iface 70 (.pointer (some ⟨w.heap.size + 1, 0, none⟩))) := cell_of (h_set _ h8) rfl
    go_wp2
    try simp only [Exit.inBlock, Exit.then]
    refine bodyPost_ret (by simp [results, Tryr.results5, go_sem, hc]; try rfl) rfl ?_
    exact ⟨_, _, _, _, by unfold IsNode; omega, rfl, by omega, (h_set_ne _ (show w.heap.size + 1 ≠ w.heap.size by omega)).trans h2, ((((((But.refl _ _).alloc _).alloc _).trans q1).setCell (Nat.le_refl _) _).none)⟩
  · go_enter Tryr.func5, Tryr.ntmps5
    go_wp2_with fail
    refine (setTag (T := 73) (by unfold IsNode; omega) (w.heap.size + 1) u 75 h4 _ _ (by rw [lit1]; exact h_new1 _ _ _)).mono ?_
    rintro e w2 ⟨rfl, q2, h2⟩
    have q1 := q2.mono (S' := fun k => w.heap.size ≤ k) (by intro k hk; omega)
    have h8 := q2.keep (k := w.heap.size) (by omega) (h_old _ (h_new _ _))
    have c8 := cell_of h8 (j := 0) rfl
    have f8 := frozen_of h8 (j := 0)
    have hc : (w2.setCell ⟨w.heap.size, 0, none⟩ (.iface 73 (.pointer (some ⟨w.heap.size + 1, 0, none⟩)))).cell? ⟨w.heap.size, 0, none⟩ = some (.iface 73 (.pointer (some ⟨w.heap.size + 1, 0, none⟩))) := cell_of (h_set _ h8) rfl
    go_wp2
    try simp only [Exit.inBlock, Exit.then]
    refine bodyPost_ret (by simp [results, Tryr.results5, go_sem, hc]; try rfl) rfl ?_
    exact ⟨_, _, _, _, by unfold IsNode; omega, rfl, by omega, (h_set_ne _ (show w.heap.size + 1 ≠ w.heap.size by omega)).trans h2, ((((((But.refl _ _).alloc _).alloc _).trans q1).setCell (Nat.le_refl _) _).none)⟩
  · go_enter Tryr.func5, Tryr.ntmps5
    go_wp2_with fail
    refine (setTag (T := 73) (by unfold IsNode; omega) (w.heap.size + 1) u 75 h4 _ _ (by rw [lit1]; exact h_new1 _ _ _)).mono ?_
    rintro e w2 ⟨rfl, q2, h2⟩
    have q1 := q2.mono (S' := fun k => w.heap.size ≤ k) (by intro k hk; omega)
    have h8 := q2.keep (k := w.heap.size) (by omega) (h_old _ (h_new _ _))
    have c8 := cell_of h8 (j := 0) rfl
    have f8 := frozen_of h8 (j := 0)
    have hc : (w2.setCell ⟨w.heap.size, 0, none⟩ (.iface 73 (.pointer (some ⟨w.heap.size + 1, 0, none⟩)))).cell? ⟨w.heap.size, 0, none⟩ = some (.iface 73 (.pointer (some ⟨w.heap.size + 1, 0, none⟩))) := cell_of (h_set _ h8) rfl
    go_wp2
    try simp only [Exit.inBlock, Exit.then]
    refine bodyPost_ret (by simp [results, Tryr.results5, go_sem, hc]; try rfl) rfl ?_
    exact ⟨_, _, _, _, by unfold IsNode; omega, rfl, by omega, (h_set_ne _ (show w.heap.size + 1 ≠ w.heap.size by omega)).trans h2, ((((((But.refl _ _).alloc _).alloc _).trans q1).setCell (Nat.le_refl _) _).none)⟩
  · go_enter Tryr.func5, Tryr.ntmps5
    go_wp2_with fail
    refine (setTag (T := 73) (by unfold IsNode; omega) (w.heap.size + 1) u 75 h4 _ _ (by rw [lit1]; exact h_new1 _ _ _)).mono ?_
    rintro e w2 ⟨rfl, q2, h2⟩
    have q1 := q2.mono (S' := fun k => w.heap.size ≤ k) (by intro k hk; omega)
    have h8 := q2.keep (k := w.heap.size) (by omega) (h_old _ (h_new _ _))
    have c8 := cell_of h8 (j := 0) rfl
    have f8 := frozen_of h8 (j := 0)
    have hc : (w2.setCell ⟨w.heap.size, 0, none⟩ (.iface 73 (.pointer (some ⟨w.heap.size + 1, 0, none⟩)))).cell? ⟨w.heap.size, 0, none⟩ = some (.iface 73 (.pointer (some ⟨w.heap.size + 1, 0, none⟩))) := cell_of (h_set _ h8) rfl
    go_wp2
    try simp only [Exit.inBlock, Exit.then]
    refine bodyPost_ret (by simp [results, Tryr.results5, go_sem, hc]; try rfl) rfl ?_
    exact ⟨_, _, _, _, by unfold IsNode; omega, rfl, by omega, (h_set_ne _ (show w.heap.size + 1 ≠ w.heap.size by omega)).trans h2, ((((((But.refl _ _).alloc _).alloc _).trans q1).setCell (Nat.le_refl _) _).none)⟩
  · go_enter Tryr.func5, Tryr.ntmps5
    go_wp2_with fail
    refine (setTag (T := 76) (by unfold IsNode; omega) (w.heap.size + 1 + 1 + 1) u 78 h4 _ _ (by rw [lit3]; exact h_new3 _ _ _ _ _)).mono ?_
    rintro e w2 ⟨rfl, q2, h2⟩
    have q1 := q2.mono (S' := fun k => w.heap.size ≤ k) (by intro k hk; omega)
    have h8 := q2.keep (k := w.heap.size) (by omega) (h_old _ (h_old _ (h_old _ (h_new _ _))))
    have c8 := cell_of h8 (j := 0) rfl
    have f8 := frozen_of h8 (j := 0)
    have hc : (w2.setCell ⟨w.heap.size, 0, none⟩ (.iface 76 (.pointer (some ⟨w.heap.size + 1 + 1 + 1, 0, none⟩)))).cell? ⟨w.heap.size, 0, none⟩ = some (.iface 76 (.pointer (some ⟨w.heap.size + 1 + 1 + 1, 0, none⟩))) := cell_of (h_set _ h8) rfl
    go_wp2
    try simp only [Exit.inBlock, Exit.then]
    refine bodyPost_ret (by simp [results, Tryr.results5, go_sem, hc]; try rfl) rfl ?_
    exact ⟨_, _, _, _, by unfold IsNode; omega, rfl, by omega, (h_set_ne _ (show w.heap.size + 1 + 1 + 1 ≠ w.heap.size by omega)).trans h2, ((((((((But.refl _ _).alloc _).alloc _).alloc _).alloc _).trans q1).setCell (Nat.le_refl _) _).none)⟩
  · go_enter Tryr.func5, Tryr.ntmps5
    go_wp2_with fail
    refine (setTag (T := 79) (by unfold IsNode; omega) (w.heap.size + 1) u 80 h4 _ _ (by rw [lit1]; exact h_new1 _ _ _)).mono ?_
    rintro e w2 ⟨rfl, q2, h2⟩
    have q1 := q2.mono (S' := fun k => w.heap.size ≤ k) (by intro k hk; omega)
    have h8 := q2.keep (k := w.heap.size) (by omega) (h_old _ (h_new _ _))
    have c8 := cell_of h8 (j := 0) rfl
    have f8 := frozen_of h8 (j := 0)
    have hc : (w2.setCell ⟨w.heap.size, 0, none⟩ (.iface 79 (.pointer (some ⟨w.heap.size + 1, 0, none⟩)))).cell? ⟨w.heap.size, 0, none⟩ = some (.iface 79 (.pointer (some ⟨w.heap.size + 1, 0, none⟩))) := cell_of (h_set _ h8) rfl
    go_wp2
    try simp only [Exit.inBlock, Exit.then]
    refine bodyPost_ret (by simp [results, Tryr.results5, go_sem, hc]; try rfl) rfl ?_
    exact ⟨_, _, _, _, by unfold IsNode; omega, rfl, by omega, (h_set_ne _ (show w.heap.size + 1 ≠ w.heap.size by omega)).trans h2, ((((((But.refl _ _).alloc _).alloc _).trans q1).setCell (Nat.le_refl _) _).none)⟩
theorem newCase (T b : Nat) (w : World) :
    Calls Tryr.prog 6 #[.agg #[(.iface T (.pointer (some ⟨b, 0, none⟩)))]] w fun e w' => ∃ r : Nat, e = .returned (.agg #[(.pointer (some ⟨r, 0, none⟩))]) ∧ w.heap.size ≤ r ∧ w'.heap[r]? = some (.cells #[(.iface T (.pointer (some ⟨b, 0, none⟩)))] 38 (0, 0)) ∧ But (fun _ => False) w w' := by
  go_enter Tryr.func6, Tryr.ntmps6
  go_wp2
  go_returns
  exact ⟨_, rfl, by omega, h_new2 _ _ _ _, by repeat' (first | exact But.refl _ _ | apply But.alloc)⟩
theorem callCopy {T1 T2 : Nat} (hT1 : IsNode T1) (hT2 : IsNode T2) (r b1 b2 u1 u2 S1 S2 : Nat) (h5 : u1 ≤ 5) (f1 f2 : Array Value) (w : World) (hr : w.heap[r]? = some (.cells #[(.iface T1 (.pointer (some ⟨b1, 0, none⟩)))] 38 (0, 0)))
    (h1 : w.heap[b1]? = some (.cells (nodeC u1 f1) S1 (0, 0))) (h2 : w.heap[b2]? = some (.cells (nodeC u2 f2) S2 (0, 0))) (n12 : b1 ≠ b2) (nr2 : r ≠ b2) :
    Calls Tryr.prog 7 #[.agg #[(.pointer (some ⟨r, 0, none⟩))], .agg #[(.iface T2 (.pointer (some ⟨b2, 0, none⟩)))]] w fun e w' => e = .returned (.tuple #[]) ∧ But (fun k => k = b2 ∨ k = r) w w' ∧ w'.heap[b2]? = some (.cells (nodeC (ans u1) f2) S2 (0, 0)) ∧ w'.heap[r]? = some (.cells #[(.iface T2 (.pointer (some ⟨b2, 0, none⟩)))] 38 (0, 0)) := by
  go_enter Tryr.func7, Tryr.ntmps7
  go_wp2_with fail
  refine (copyW hT1 hT2 r b1 b2 u1 u2 S1 S2 h5 f1 f2 _ (h_old _ (h_old _ hr)) (h_old _ (h_old _ h1)) (h_old _ (h_old _ h2)) n12 nr2).mono ?_
  rintro e w2 ⟨rfl, q2, h22, hr2⟩
  go_wp2
  go_returns
  exact ⟨rfl, (((But.refl _ _).alloc _).alloc _).trans q2, h22, hr2⟩
theorem patchRoot (T b r : Nat) (w : World) (hr : w.heap[r]? = some (.cells #[(.iface T (.pointer (some ⟨b, 0, none⟩)))] 38 (0, 0))) :
    Calls Tryr.prog 8 #[.agg #[(.pointer (some ⟨r, 0, none⟩))]] w fun e w' => e = .returned (.agg #[(.iface T (.pointer (some ⟨b, 0, none⟩)))]) ∧ But (fun _ => False) w w' := by
  have c := cell_of (h_old (.cells #[(.pointer (some ⟨r, 0, none⟩))] 44) hr) (j := 0) rfl
  have c' := cell_of (h_old (.cells #[.nilIface] 40) (h_old (.cells #[(.pointer (some ⟨r, 0, none⟩))] 44) hr)) (j := 0) rfl
  go_enter Tryr.func8, Tryr.ntmps8
  go_wp2
  go_returns
  exact ⟨rfl, by repeat' (first | exact But.refl _ _ | apply But.alloc)⟩
theorem eqlSelf {T : Nat} (hT : IsNode T) (b : Nat) (w : World) : (binOp .eql 38 (.iface T (.pointer (some ⟨b, 0, none⟩))) (.iface T (.pointer (some ⟨b, 0, none⟩)))).run Tryr.prog w = .ok (.bool true) w := by
  unfold IsNode at hT
  rcases hT with rfl | rfl | rfl | rfl | rfl | rfl | rfl
  · obtain ⟨i, hi, hc⟩ := Option.map_eq_some_iff.1 (show (Tryr.prog.info? 50).map (·.comparable) = some true by kernel_rfl)
    obtain ⟨j, hj, _⟩ := Option.map_eq_some_iff.1 (show (Tryr.prog.info? 63).map (·.size) = some 12 by kernel_rfl)
    exact run_eql_iface_ptr_same w _ Tryr.underlying38 Tryr.underlying50 hi hc hj
  · obtain ⟨i, hi, hc⟩ := Option.map_eq_some_iff.1 (show (Tryr.prog.info? 64).map (·.comparable) = some true by kernel_rfl)
    obtain ⟨j, hj, _⟩ := Option.map_eq_some_iff.1 (show (Tryr.prog.info? 66).map (·.size) = some 12 by kernel_rfl)
    exact run_eql_iface_ptr_same w _ Tryr.underlying38 Tryr.underlying64 hi hc hj
  · obtain ⟨i, hi, hc⟩ := Option.map_eq_some_iff.1 (show (Tryr.prog.info? 67).map (·.comparable) = some true by kernel_rfl)
    obtain ⟨j, hj, _⟩ := Option.map_eq_some_iff.1 (show (Tryr.prog.info? 69).map (·.size) = some 12 by kernel_rfl)
    exact run_eql_iface_ptr_same w _ Tryr.underlying38 Tryr.underlying67 hi hc hj
  · obtain ⟨i, hi, hc⟩ := Option.map_eq_some_iff.1 (show (Tryr.prog.info? 70).map (·.comparable) = some true by kernel_rfl)
    obtain ⟨j, hj, _⟩ := Option.map_eq_some_iff.1 (show (Tryr.prog.info? 72).map (·.size) = some 12 by kernel_rfl)
    exact run_eql_iface_ptr_same w _ Tryr.underlying38 Tryr.underlying70 hi hc hj
  · obtain ⟨i, hi, hc⟩ := Option.map_eq_some_iff.1 (show (Tryr.prog.info? 73).map (·.comparable) = some true by kernel_rfl)
    obtain ⟨j, hj, _⟩ := Option.map_eq_some_iff.1 (show (Tryr.prog.info? 75).map (·.size) = some 12 by kernel_rfl)
    exact run_eql_iface_ptr_same w _ Tryr.underlying38 Tryr.underlying73 hi hc hj
  · obtain ⟨i, hi, hc⟩ := Option.map_eq_some_iff.1 (show (Tryr.prog.info? 76).map (·.comparable) = some true by kernel_rfl)
    obtain ⟨j, hj, _⟩ := Option.map_eq_some_iff.1 (show (Tryr.prog.info? 78).map (·.size) = some 14 by kernel_rfl)
    exact run_eql_iface_ptr_same w _ Tryr.underlying38 Tryr.underlying76 hi hc hj
  · obtain ⟨i, hi, hc⟩ := Option.map_eq_some_iff.1 (show (Tryr.prog.info? 79).map (·.comparable) = some true by kernel_rfl)
    obtain ⟨j, hj, _⟩ := Option.map_eq_some_iff.1 (show (Tryr.prog.info? 80).map (·.size) = some 12 by kernel_rfl)
    exact run_eql_iface_ptr_same w _ Tryr.underlying38 Tryr.underlying79 hi hc hj
theorem zzSame {T : Nat} (hT : IsNode T) (b : Nat) (w : World) :
    Calls Tryr.prog 9 #[.agg #[(.iface T (.pointer (some ⟨b, 0, none⟩)))], .agg #[(.iface T (.pointer (some ⟨b, 0, none⟩)))]] w fun e w' => e = .returned (.bool true) ∧ But (fun _ => False) w w' := by
  have g := eqlSelf hT b
  go_enter Tryr.func9, Tryr.ntmps9
  go_wp2
  go_ret
  exact ⟨rfl, by repeat' (first | exact But.refl _ _ | apply But.alloc)⟩
end Go.Proofs.YthbgafiknfoinaaRefl.opt
