/-
Nodes of a sum over this cut: literals, sameness, and what the handles read. No condition.
-/
import Derived.Test.YtkgllpdcpmcmoaaReflFmtOptD
import Derived.LaidEql
namespace Go.Proofs.YtkgllpdcpmcmoaaReflFmt.opt
open Go Go.Proofs Go.RowKit
set_option maxRecDepth 100000
set_option maxHeartbeats 1000000
theorem lit1 (v : Value) : nodeC 0 #[v] = #[.int .i64 0, .int .i64 0, .nilIface, .int .u64 0, .pointer none, .pointer none, .bool false, .bool false, .bool false, .bool false, .bool false, v] := by simp [nodeC, natC]
theorem lit3 (v x y : Value) : nodeC 0 #[v, x, y] = #[.int .i64 0, .int .i64 0, .nilIface, .int .u64 0, .pointer none, .pointer none, .bool false, .bool false, .bool false, .bool false, .bool false, v, x, y] := by simp [nodeC, natC]
theorem lit5 (v x y z t : Value) : nodeC 0 #[v, x, y, z, t] = #[.int .i64 0, .int .i64 0, .nilIface, .int .u64 0, .pointer none, .pointer none, .bool false, .bool false, .bool false, .bool false, .bool false, v, x, y, z, t] := by simp [nodeC, natC]
theorem h_new1 (w : World) (o o' : Obj) : ((w.alloc o).alloc o').heap[w.heap.size + 1]? = some o' := by
  have := h_new (w.alloc o) o'
  rwa [World.size_alloc] at this
theorem h_new2 (w : World) (o o' o2 : Obj) : (((w.alloc o).alloc o').alloc o2).heap[w.heap.size + 1 + 1]? = some o2 := by
  have := h_new ((w.alloc o).alloc o') o2
  rwa [World.size_alloc, World.size_alloc] at this
theorem But.at {S : Nat → Prop} {a w : World} {B : Nat} (h : Below B a w) (hS : ∀ k, ¬ S k → k < B) : But S a w := ⟨h.os, h.tape, h.output, h.size, fun k hk _ => h.block k (hS k hk)⟩
theorem But.none {a w : World} (h : But (fun k => a.heap.size ≤ k) a w) : But (fun _ => False) a w := ⟨h.os, h.tape, h.output, h.size, fun k _ hk => h.block k (by omega) hk⟩
theorem up {w : World} {a : Addr} {v : Value} {o : Obj} (h : w.cell? a = some v) : (w.alloc o).cell? a = some v := by
  rw [World.cell?_alloc_lt _ _ _ (World.block_lt_of_cell? w _ h)]; exact h
/-- a node's own field -/
theorem field {w : World} {b u ST j : Nat} {fs : Array Value} {v : Value} (h : w.heap[b]? = some (.cells (nodeC u fs) ST (0, 0))) (hj : fs[j]? = some v) : w.cell? ⟨b, 11 + j, none⟩ = some v := cell_of h ((nodeC_f u j fs).trans hj)
theorem isPU : IsNode 76 := by unfold IsNode; omega
theorem isPB : IsNode 87 := by unfold IsNode; omega
theorem isPI : IsNode 59 := by unfold IsNode; omega
theorem isPA : IsNode 73 := by unfold IsNode; omega
theorem eqlSelf {T : Nat} (hT : IsNode T) (b : Nat) (w : World) : (binOp .eql 40 (.iface T (.pointer (some ⟨b, 0, none⟩))) (.iface T (.pointer (some ⟨b, 0, none⟩)))).run Tryr.prog w = .ok (.bool true) w := by
  unfold IsNode at hT
  rcases hT with rfl | rfl | rfl | rfl
  · obtain ⟨i, hi, hc⟩ := Option.map_eq_some_iff.1 (show (Tryr.prog.info? 59).map (·.comparable) = some true by kernel_rfl)
    obtain ⟨j, hj, _⟩ := Option.map_eq_some_iff.1 (show (Tryr.prog.info? 72).map (·.size) = some 12 by kernel_rfl)
    exact run_eql_iface_ptr_same w _ Tryr.underlying40 Tryr.underlying59 hi hc hj
  · obtain ⟨i, hi, hc⟩ := Option.map_eq_some_iff.1 (show (Tryr.prog.info? 73).map (·.comparable) = some true by kernel_rfl)
    obtain ⟨j, hj, _⟩ := Option.map_eq_some_iff.1 (show (Tryr.prog.info? 75).map (·.size) = some 12 by kernel_rfl)
    exact run_eql_iface_ptr_same w _ Tryr.underlying40 Tryr.underlying73 hi hc hj
  · obtain ⟨i, hi, hc⟩ := Option.map_eq_some_iff.1 (show (Tryr.prog.info? 76).map (·.comparable) = some true by kernel_rfl)
    obtain ⟨j, hj, _⟩ := Option.map_eq_some_iff.1 (show (Tryr.prog.info? 79).map (·.size) = some 16 by kernel_rfl)
    exact run_eql_iface_ptr_same w _ Tryr.underlying40 Tryr.underlying76 hi hc hj
  · obtain ⟨i, hi, hc⟩ := Option.map_eq_some_iff.1 (show (Tryr.prog.info? 87).map (·.comparable) = some true by kernel_rfl)
    obtain ⟨j, hj, _⟩ := Option.map_eq_some_iff.1 (show (Tryr.prog.info? 90).map (·.size) = some 14 by kernel_rfl)
    exact run_eql_iface_ptr_same w _ Tryr.underlying40 Tryr.underlying87 hi hc hj
theorem asIntegerNode (v : Value) (w : World) : (Instr.typeAssert (.iface 59 v) 40 59 true).run Tryr.prog w = .ok (.tuple #[v, .bool true]) w := by kernel_rfl
theorem asArrayNode (v : Value) (w : World) : (Instr.typeAssert (.iface 73 v) 40 73 true).run Tryr.prog w = .ok (.tuple #[v, .bool true]) w := by kernel_rfl
theorem asBuiltinNode (v : Value) (w : World) : (Instr.typeAssert (.iface 76 v) 40 76 true).run Tryr.prog w = .ok (.tuple #[v, .bool true]) w := by kernel_rfl
theorem asBinaryNode (v : Value) (w : World) : (Instr.typeAssert (.iface 87 v) 40 87 true).run Tryr.prog w = .ok (.tuple #[v, .bool true]) w := by kernel_rfl
theorem zzSame {T : Nat} (hT : IsNode T) (b : Nat) (w : World) :
    Calls Tryr.prog 11 #[.agg #[(.iface T (.pointer (some ⟨b, 0, none⟩)))], .agg #[(.iface T (.pointer (some ⟨b, 0, none⟩)))]] w fun e w' => e = .returned (.bool true) ∧ But (fun _ => False) w w' := by
  have g := eqlSelf hT b
  go_enter Tryr.func11, Tryr.ntmps11
  go_wp2
  go_ret
  exact ⟨rfl, by repeat' (first | exact But.refl _ _ | apply But.alloc | apply But.drew)⟩
theorem binOp (b u : Nat) (op : ByteArray) (x y : Value) (w : World) (h : w.heap[b]? = some (.cells (nodeC u #[.string op, x, y]) 90 (0, 0))) :
    Calls Tryr.prog 18 #[.agg #[(.iface 87 (.pointer (some ⟨b, 0, none⟩)))]] w fun e w' => e = .returned (.tuple #[.string op, .bool true]) ∧ But (fun _ => False) w w' := by
  have c1 : (w.alloc (.cells #[(.iface 87 (.pointer (some ⟨b, 0, none⟩)))] 47)).cell? ⟨b, 11, none⟩ = some (.string op) := field (j := 0) (h_old _ h) rfl
  have a1 := asIntegerNode
  have a2 := asArrayNode
  have a3 := asBuiltinNode
  have a4 := asBinaryNode
  go_enter Tryr.func18, Tryr.ntmps18
  go_wp2
  go_returns
  exact ⟨rfl, by repeat' (first | exact But.refl _ _ | apply But.alloc | apply But.drew)⟩
theorem binLeft (b u : Nat) (op y : Value) (T c : Nat) (w : World) (h : w.heap[b]? = some (.cells (nodeC u #[op, (.iface T (.pointer (some ⟨c, 0, none⟩))), y]) 90 (0, 0))) :
    Calls Tryr.prog 21 #[.agg #[(.iface 87 (.pointer (some ⟨b, 0, none⟩)))]] w fun e w' => e = .returned (.agg #[(.iface T (.pointer (some ⟨c, 0, none⟩)))]) ∧ But (fun _ => False) w w' := by
  have c1 : (w.alloc (.cells #[(.iface 87 (.pointer (some ⟨b, 0, none⟩)))] 47)).cell? ⟨b, 12, none⟩ = some (.iface T (.pointer (some ⟨c, 0, none⟩))) := field (j := 1) (h_old _ h) rfl
  have c2 : ((w.alloc (.cells #[(.iface 87 (.pointer (some ⟨b, 0, none⟩)))] 47)).alloc (.cells #[.nilIface] 47)).cell? ⟨b, 12, none⟩ = some (.iface T (.pointer (some ⟨c, 0, none⟩))) := field (j := 1) (h_old _ (h_old _ h)) rfl
  have a1 := asIntegerNode
  have a2 := asArrayNode
  have a3 := asBuiltinNode
  have a4 := asBinaryNode
  go_enter Tryr.func21, Tryr.ntmps21
  go_wp2
  go_returns
  exact ⟨rfl, by repeat' (first | exact But.refl _ _ | apply But.alloc | apply But.drew)⟩
theorem binRight (b u : Nat) (op x : Value) (T c : Nat) (w : World) (h : w.heap[b]? = some (.cells (nodeC u #[op, x, (.iface T (.pointer (some ⟨c, 0, none⟩)))]) 90 (0, 0))) :
    Calls Tryr.prog 23 #[.agg #[(.iface 87 (.pointer (some ⟨b, 0, none⟩)))]] w fun e w' => e = .returned (.agg #[(.iface T (.pointer (some ⟨c, 0, none⟩)))]) ∧ But (fun _ => False) w w' := by
  have c1 : (w.alloc (.cells #[(.iface 87 (.pointer (some ⟨b, 0, none⟩)))] 47)).cell? ⟨b, 13, none⟩ = some (.iface T (.pointer (some ⟨c, 0, none⟩))) := field (j := 2) (h_old _ h) rfl
  have c2 : ((w.alloc (.cells #[(.iface 87 (.pointer (some ⟨b, 0, none⟩)))] 47)).alloc (.cells #[.nilIface] 47)).cell? ⟨b, 13, none⟩ = some (.iface T (.pointer (some ⟨c, 0, none⟩))) := field (j := 2) (h_old _ (h_old _ h)) rfl
  have a1 := asIntegerNode
  have a2 := asArrayNode
  have a3 := asBuiltinNode
  have a4 := asBinaryNode
  go_enter Tryr.func23, Tryr.ntmps23
  go_wp2
  go_returns
  exact ⟨rfl, by repeat' (first | exact But.refl _ _ | apply But.alloc | apply But.drew)⟩
theorem intValue (b u : Nat) (z : Int) (w : World) (h : w.heap[b]? = some (.cells (nodeC u #[.int .i64 z]) 72 (0, 0))) :
    Calls Tryr.prog 22 #[.agg #[(.iface 59 (.pointer (some ⟨b, 0, none⟩)))]] w fun e w' => e = .returned (.tuple #[.int .i64 z, .bool true]) ∧ But (fun _ => False) w w' := by
  have c1 : (w.alloc (.cells #[(.iface 59 (.pointer (some ⟨b, 0, none⟩)))] 47)).cell? ⟨b, 11, none⟩ = some (.int .i64 z) := field (j := 0) (h_old _ h) rfl
  have a1 := asIntegerNode
  have a2 := asArrayNode
  have a3 := asBuiltinNode
  have a4 := asBinaryNode
  go_enter Tryr.func22, Tryr.ntmps22
  go_wp2
  go_returns
  exact ⟨rfl, by repeat' (first | exact But.refl _ _ | apply But.alloc | apply But.drew)⟩
theorem arrayLen (b u : Nat) (s : Option Addr) (n c : Nat) (w : World) (h : w.heap[b]? = some (.cells (nodeC u #[.slice s n c]) 75 (0, 0))) :
    Calls Tryr.prog 10 #[.agg #[(.iface 73 (.pointer (some ⟨b, 0, none⟩)))]] w fun e w' => e = .returned (.int .i64 n) ∧ But (fun _ => False) w w' := by
  have c1 : (w.alloc (.cells #[(.iface 73 (.pointer (some ⟨b, 0, none⟩)))] 47)).cell? ⟨b, 11, none⟩ = some (.slice s n c) := field (j := 0) (h_old _ h) rfl
  have a1 := asIntegerNode
  have a2 := asArrayNode
  have a3 := asBuiltinNode
  have a4 := asBinaryNode
  go_enter Tryr.func10, Tryr.ntmps10
  go_wp2
  go_returns
  exact ⟨rfl, by repeat' (first | exact But.refl _ _ | apply But.alloc | apply But.drew)⟩
theorem builtinName (b u : Nat) (nm : ByteArray) (a x y z : Value) (w : World) (h : w.heap[b]? = some (.cells (nodeC u #[.string nm, a, x, y, z]) 79 (0, 0))) :
    Calls Tryr.prog 14 #[.agg #[(.iface 76 (.pointer (some ⟨b, 0, none⟩)))]] w fun e w' => e = .returned (.tuple #[.string nm, .bool true]) ∧ But (fun _ => False) w w' := by
  have c1 : (w.alloc (.cells #[(.iface 76 (.pointer (some ⟨b, 0, none⟩)))] 47)).cell? ⟨b, 11, none⟩ = some (.string nm) := field (j := 0) (h_old _ h) rfl
  have a1 := asIntegerNode
  have a2 := asArrayNode
  have a3 := asBuiltinNode
  have a4 := asBinaryNode
  go_enter Tryr.func14, Tryr.ntmps14
  go_wp2
  go_returns
  exact ⟨rfl, by repeat' (first | exact But.refl _ _ | apply But.alloc | apply But.drew)⟩
theorem builtinArgCount (b u : Nat) (s : Option Addr) (n c : Nat) (nm x y z : Value) (w : World) (h : w.heap[b]? = some (.cells (nodeC u #[nm, .slice s n c, x, y, z]) 79 (0, 0))) :
    Calls Tryr.prog 16 #[.agg #[(.iface 76 (.pointer (some ⟨b, 0, none⟩)))]] w fun e w' => e = .returned (.int .i64 n) ∧ But (fun _ => False) w w' := by
  have c1 : (w.alloc (.cells #[(.iface 76 (.pointer (some ⟨b, 0, none⟩)))] 47)).cell? ⟨b, 12, none⟩ = some (.slice s n c) := field (j := 1) (h_old _ h) rfl
  have a1 := asIntegerNode
  have a2 := asArrayNode
  have a3 := asBuiltinNode
  have a4 := asBinaryNode
  go_enter Tryr.func16, Tryr.ntmps16
  go_wp2
  go_returns
  exact ⟨rfl, by repeat' (first | exact But.refl _ _ | apply But.alloc | apply But.drew)⟩
theorem sumRoot (rt sm ar e0 n : Nat) (T b : Nat) (w : World) (h : w.heap[rt]? = some (.cells #[(.iface T (.pointer (some ⟨b, 0, none⟩)))] 40 (0, 0))) :
    Calls Tryr.prog 8 #[.agg #[(.pointer (some ⟨rt, 0, none⟩)), (.iface 76 (.pointer (some ⟨sm, 0, none⟩))), (.iface 73 (.pointer (some ⟨ar, 0, none⟩))), .slice (some ⟨e0, 0, none⟩) n n]] w fun e w' => e = .returned (.agg #[(.iface T (.pointer (some ⟨b, 0, none⟩)))]) ∧ But (fun _ => False) w w' := by
  have c1 : ((w.alloc (.cells #[(.pointer (some ⟨rt, 0, none⟩)), (.iface 76 (.pointer (some ⟨sm, 0, none⟩))), (.iface 73 (.pointer (some ⟨ar, 0, none⟩))), .slice (some ⟨e0, 0, none⟩) n n] 43)).alloc (.cells #[.nilIface] 47)).cell? ⟨rt, 0, none⟩ = some (.iface T (.pointer (some ⟨b, 0, none⟩))) := cell_of (h_old _ (h_old _ h)) rfl
  have a1 := asIntegerNode
  have a2 := asArrayNode
  have a3 := asBuiltinNode
  have a4 := asBinaryNode
  go_enter Tryr.func8, Tryr.ntmps8
  go_wp2
  go_returns
  exact ⟨rfl, by repeat' (first | exact But.refl _ _ | apply But.alloc | apply But.drew)⟩
theorem sumNode (rt sm ar e0 n : Nat) (w : World) :
    Calls Tryr.prog 15 #[.agg #[(.pointer (some ⟨rt, 0, none⟩)), (.iface 76 (.pointer (some ⟨sm, 0, none⟩))), (.iface 73 (.pointer (some ⟨ar, 0, none⟩))), .slice (some ⟨e0, 0, none⟩) n n]] w fun e w' => e = .returned (.agg #[(.iface 76 (.pointer (some ⟨sm, 0, none⟩)))]) ∧ But (fun _ => False) w w' := by
  have a1 := asIntegerNode
  have a2 := asArrayNode
  have a3 := asBuiltinNode
  have a4 := asBinaryNode
  go_enter Tryr.func15, Tryr.ntmps15
  go_wp2
  go_returns
  exact ⟨rfl, by repeat' (first | exact But.refl _ _ | apply But.alloc | apply But.drew)⟩
theorem sumArr (rt sm ar e0 n : Nat) (w : World) :
    Calls Tryr.prog 9 #[.agg #[(.pointer (some ⟨rt, 0, none⟩)), (.iface 76 (.pointer (some ⟨sm, 0, none⟩))), (.iface 73 (.pointer (some ⟨ar, 0, none⟩))), .slice (some ⟨e0, 0, none⟩) n n]] w fun e w' => e = .returned (.agg #[(.iface 73 (.pointer (some ⟨ar, 0, none⟩)))]) ∧ But (fun _ => False) w w' := by
  have a1 := asIntegerNode
  have a2 := asArrayNode
  have a3 := asBuiltinNode
  have a4 := asBinaryNode
  go_enter Tryr.func9, Tryr.ntmps9
  go_wp2
  go_returns
  exact ⟨rfl, by repeat' (first | exact But.refl _ _ | apply But.alloc | apply But.drew)⟩
theorem sumElem (rt sm ar e0 n : Nat) (i T b : Nat) (hi : i < n) (w : World) (h : w.cell? ⟨e0, i, none⟩ = some (.iface T (.pointer (some ⟨b, 0, none⟩)))) :
    Calls Tryr.prog 13 #[.agg #[(.pointer (some ⟨rt, 0, none⟩)), (.iface 76 (.pointer (some ⟨sm, 0, none⟩))), (.iface 73 (.pointer (some ⟨ar, 0, none⟩))), .slice (some ⟨e0, 0, none⟩) n n], .int .i64 i] w fun e w' => e = .returned (.agg #[(.iface T (.pointer (some ⟨b, 0, none⟩)))]) ∧ But (fun _ => False) w w' := by
  have c1 : ((w.alloc (.cells #[(.pointer (some ⟨rt, 0, none⟩)), (.iface 76 (.pointer (some ⟨sm, 0, none⟩))), (.iface 73 (.pointer (some ⟨ar, 0, none⟩))), .slice (some ⟨e0, 0, none⟩) n n] 43)).alloc (.cells #[.nilIface] 47)).cell? ⟨e0, i, none⟩ = some (.iface T (.pointer (some ⟨b, 0, none⟩))) := up (up h)
  have a1 := asIntegerNode
  have a2 := asArrayNode
  have a3 := asBuiltinNode
  have a4 := asBinaryNode
  go_enter Tryr.func13, Tryr.ntmps13
  go_wp2
  go_returns
  exact ⟨rfl, by repeat' (first | exact But.refl _ _ | apply But.alloc | apply But.drew)⟩
theorem arrayElem (b u e0 n i T c : Nat) (hi : i < n) (w : World) (h : w.heap[b]? = some (.cells (nodeC u #[.slice (some ⟨e0, 0, none⟩) n n]) 75 (0, 0))) (hc : w.cell? ⟨e0, i, none⟩ = some (.iface T (.pointer (some ⟨c, 0, none⟩)))) :
    Calls Tryr.prog 12 #[.agg #[(.iface 73 (.pointer (some ⟨b, 0, none⟩)))], .int .i64 i] w fun e w' => e = .returned (.agg #[(.iface T (.pointer (some ⟨c, 0, none⟩)))]) ∧ But (fun _ => False) w w' := by
  have c1 : ((w.alloc (.cells #[(.iface 73 (.pointer (some ⟨b, 0, none⟩)))] 47)).alloc (.cells #[.nilIface] 47)).cell? ⟨b, 11, none⟩ = some (.slice (some ⟨e0, 0, none⟩) n n) := field (j := 0) (h_old _ (h_old _ h)) rfl
  have c2 : ((w.alloc (.cells #[(.iface 73 (.pointer (some ⟨b, 0, none⟩)))] 47)).alloc (.cells #[.nilIface] 47)).cell? ⟨e0, i, none⟩ = some (.iface T (.pointer (some ⟨c, 0, none⟩))) := up (up hc)
  have a1 := asIntegerNode
  have a2 := asArrayNode
  have a3 := asBuiltinNode
  have a4 := asBinaryNode
  go_enter Tryr.func12, Tryr.ntmps12
  go_wp2
  go_returns
  exact ⟨rfl, by repeat' (first | exact But.refl _ _ | apply But.alloc | apply But.drew)⟩
theorem builtinArg0 (b u g n cap T c : Nat) (nm x y z : Value) (hi : 0 < n) (w : World) (h : w.heap[b]? = some (.cells (nodeC u #[nm, .slice (some ⟨g, 0, none⟩) n cap, x, y, z]) 79 (0, 0))) (hc : w.cell? ⟨g, 0, none⟩ = some (.iface T (.pointer (some ⟨c, 0, none⟩)))) :
    Calls Tryr.prog 17 #[.agg #[(.iface 76 (.pointer (some ⟨b, 0, none⟩)))], .int .i64 0] w fun e w' => e = .returned (.agg #[(.iface T (.pointer (some ⟨c, 0, none⟩)))]) ∧ But (fun _ => False) w w' := by
  have c1 : ((w.alloc (.cells #[(.iface 76 (.pointer (some ⟨b, 0, none⟩)))] 47)).alloc (.cells #[.nilIface] 47)).cell? ⟨b, 12, none⟩ = some (.slice (some ⟨g, 0, none⟩) n cap) := field (j := 1) (h_old _ (h_old _ h)) rfl
  have c2 : ((w.alloc (.cells #[(.iface 76 (.pointer (some ⟨b, 0, none⟩)))] 47)).alloc (.cells #[.nilIface] 47)).cell? ⟨g, 0, none⟩ = some (.iface T (.pointer (some ⟨c, 0, none⟩))) := up (up hc)
  have a1 := asIntegerNode
  have a2 := asArrayNode
  have a3 := asBuiltinNode
  have a4 := asBinaryNode
  go_enter Tryr.func17, Tryr.ntmps17
  go_wp2
  go_returns
  exact ⟨rfl, by repeat' (first | exact But.refl _ _ | apply But.alloc | apply But.drew)⟩
end Go.Proofs.YtkgllpdcpmcmoaaReflFmt.opt
