/-
Nodes of a pair of predicates over this cut: words, sameness, and what the handles read. No condition.
-/
import Derived.Test.YtiddjmnknndcaaaReflFmtOptD
import Derived.LaidEql
namespace Go.Proofs.YtiddjmnknndcaaaReflFmt.opt
open Go Go.Proofs Go.RowKit
set_option maxRecDepth 100000
set_option maxHeartbeats 1000000
theorem lit1 (v : Value) : nodeC 0 #[v] = #[.int .i64 0, .int .i64 0, .nilIface, .int .u64 0, .pointer none, .pointer none, .bool false, .bool false, .bool false, .bool false, .bool false, v] := by simp [nodeC, natC]
theorem lit3 (v x y : Value) : nodeC 0 #[v, x, y] = #[.int .i64 0, .int .i64 0, .nilIface, .int .u64 0, .pointer none, .pointer none, .bool false, .bool false, .bool false, .bool false, .bool false, v, x, y] := by simp [nodeC, natC]
theorem lit5 (v x y z t : Value) : nodeC 0 #[v, x, y, z, t] = #[.int .i64 0, .int .i64 0, .nilIface, .int .u64 0, .pointer none, .pointer none, .bool false, .bool false, .bool false, .bool false, .bool false, v, x, y, z, t] := by simp [nodeC, natC]
theorem h_new1 (w : World) (o o' : Obj) : ((w.alloc o).alloc o').heap[w.heap.size + 1]? = some o' := by
  have := h_new (w.alloc o) o'
  rwa [World.size_alloc] at this
theorem But.none {a w : World} (h : But (fun k => a.heap.size ≤ k) a w) : But (fun _ => False) a w := ⟨h.os, h.tape, h.output, h.size, fun k _ hk => h.block k (by omega) hk⟩
theorem But.old {p : Nat → Prop} {a w : World} (h : But (fun k => p k ∨ a.heap.size ≤ k) a w) : But p a w := ⟨h.os, h.tape, h.output, h.size, fun k hk hl => h.block k (by intro s; rcases s with s | s; exact hk s; omega) hl⟩
theorem up {w : World} {a : Addr} {v : Value} {o : Obj} (h : w.cell? a = some v) : (w.alloc o).cell? a = some v := by
  rw [World.cell?_alloc_lt _ _ _ (World.block_lt_of_cell? w _ h)]; exact h
/-- a node's own field -/
theorem field {w : World} {b u ST j : Nat} {fs : Array Value} {v : Value} (h : w.heap[b]? = some (.cells (nodeC u fs) ST (0, 0))) (hj : fs[j]? = some v) : w.cell? ⟨b, 11 + j, none⟩ = some v := cell_of h ((nodeC_f u j fs).trans hj)
theorem isPD : IsNode 57 := by unfold IsNode; omega
theorem isPU : IsNode 72 := by unfold IsNode; omega
theorem isPB : IsNode 79 := by unfold IsNode; omega
theorem isPP : IsNode 73 := by unfold IsNode; omega
theorem eqlSelf {T : Nat} (hT : IsNode T) (b : Nat) (w : World) : (binOp .eql 45 (.iface T (.pointer (some ⟨b, 0, none⟩))) (.iface T (.pointer (some ⟨b, 0, none⟩)))).run Tryr.prog w = .ok (.bool true) w := by
  unfold IsNode at hT
  rcases hT with rfl | rfl | rfl | rfl
  · obtain ⟨i, hi, hc⟩ := Option.map_eq_some_iff.1 (show (Tryr.prog.info? 57).map (·.comparable) = some true by kernel_rfl)
    obtain ⟨j, hj, _⟩ := Option.map_eq_some_iff.1 (show (Tryr.prog.info? 70).map (·.size) = some 12 by kernel_rfl)
    exact run_eql_iface_ptr_same w _ Tryr.underlying45 Tryr.underlying57 hi hc hj
  · obtain ⟨i, hi, hc⟩ := Option.map_eq_some_iff.1 (show (Tryr.prog.info? 72).map (·.comparable) = some true by kernel_rfl)
    obtain ⟨j, hj, _⟩ := Option.map_eq_some_iff.1 (show (Tryr.prog.info? 78).map (·.size) = some 16 by kernel_rfl)
    exact run_eql_iface_ptr_same w _ Tryr.underlying45 Tryr.underlying72 hi hc hj
  · obtain ⟨i, hi, hc⟩ := Option.map_eq_some_iff.1 (show (Tryr.prog.info? 79).map (·.comparable) = some true by kernel_rfl)
    obtain ⟨j, hj, _⟩ := Option.map_eq_some_iff.1 (show (Tryr.prog.info? 81).map (·.size) = some 14 by kernel_rfl)
    exact run_eql_iface_ptr_same w _ Tryr.underlying45 Tryr.underlying79 hi hc hj
  · obtain ⟨i, hi, hc⟩ := Option.map_eq_some_iff.1 (show (Tryr.prog.info? 73).map (·.comparable) = some true by kernel_rfl)
    obtain ⟨j, hj, _⟩ := Option.map_eq_some_iff.1 (show (Tryr.prog.info? 75).map (·.size) = some 12 by kernel_rfl)
    exact run_eql_iface_ptr_same w _ Tryr.underlying45 Tryr.underlying73 hi hc hj
theorem asIdentifierNode (v : Value) (w : World) : (Instr.typeAssert (.iface 57 v) 45 57 true).run Tryr.prog w = .ok (.tuple #[v, .bool true]) w := by kernel_rfl
theorem asBuiltinNode (v : Value) (w : World) : (Instr.typeAssert (.iface 72 v) 45 72 true).run Tryr.prog w = .ok (.tuple #[v, .bool true]) w := by kernel_rfl
theorem asBinaryNode (v : Value) (w : World) : (Instr.typeAssert (.iface 79 v) 45 79 true).run Tryr.prog w = .ok (.tuple #[v, .bool true]) w := by kernel_rfl
theorem asPredicateNode (v : Value) (w : World) : (Instr.typeAssert (.iface 73 v) 45 73 true).run Tryr.prog w = .ok (.tuple #[v, .bool true]) w := by kernel_rfl
theorem notU (v : Value) (w : World) : (Instr.typeAssert (.iface 57 v) 45 72 true).run Tryr.prog w = .ok (.tuple #[.pointer none, .bool false]) w := by kernel_rfl
theorem onlyP (v : Value) (w : World) : (Instr.typeAssert (.iface 73 v) 45 73 false).run Tryr.prog w = .ok v w := by kernel_rfl
theorem zzSame {T : Nat} (hT : IsNode T) (b : Nat) (w : World) :
    Calls Tryr.prog 12 #[.agg #[(.iface T (.pointer (some ⟨b, 0, none⟩)))], .agg #[(.iface T (.pointer (some ⟨b, 0, none⟩)))]] w fun e w' => e = .returned (.bool true) ∧ But (fun _ => False) w w' := by
  have g := eqlSelf hT b
  go_enter Tryr.func12, Tryr.ntmps12
  go_wp2
  go_ret
  exact ⟨rfl, by repeat' (first | exact But.refl _ _ | apply But.alloc | apply But.drew)⟩
theorem binOp (b u : Nat) (op : ByteArray) (x y : Value) (w : World) (h : w.heap[b]? = some (.cells (nodeC u #[.string op, x, y]) 81 (0, 0))) :
    Calls Tryr.prog 20 #[.agg #[(.iface 79 (.pointer (some ⟨b, 0, none⟩)))]] w fun e w' => e = .returned (.tuple #[.string op, .bool true]) ∧ But (fun _ => False) w w' := by
  have c1 : (w.alloc (.cells #[(.iface 79 (.pointer (some ⟨b, 0, none⟩)))] 47)).cell? ⟨b, 11, none⟩ = some (.string op) := field (j := 0) (h_old _ h) rfl
  have a1 := asIdentifierNode
  have a2 := asPredicateNode
  have a3 := asBuiltinNode
  have a4 := asBinaryNode
  go_enter Tryr.func20, Tryr.ntmps20
  go_wp2
  go_returns
  exact ⟨rfl, by repeat' (first | exact But.refl _ _ | apply But.alloc | apply But.drew)⟩
theorem binLeft (b u : Nat) (op y : Value) (T c : Nat) (w : World) (h : w.heap[b]? = some (.cells (nodeC u #[op, (.iface T (.pointer (some ⟨c, 0, none⟩))), y]) 81 (0, 0))) :
    Calls Tryr.prog 13 #[.agg #[(.iface 79 (.pointer (some ⟨b, 0, none⟩)))]] w fun e w' => e = .returned (.agg #[(.iface T (.pointer (some ⟨c, 0, none⟩)))]) ∧ But (fun _ => False) w w' := by
  have c1 : (w.alloc (.cells #[(.iface 79 (.pointer (some ⟨b, 0, none⟩)))] 47)).cell? ⟨b, 12, none⟩ = some (.iface T (.pointer (some ⟨c, 0, none⟩))) := field (j := 1) (h_old _ h) rfl
  have c2 : ((w.alloc (.cells #[(.iface 79 (.pointer (some ⟨b, 0, none⟩)))] 47)).alloc (.cells #[.nilIface] 47)).cell? ⟨b, 12, none⟩ = some (.iface T (.pointer (some ⟨c, 0, none⟩))) := field (j := 1) (h_old _ (h_old _ h)) rfl
  have a1 := asIdentifierNode
  have a2 := asPredicateNode
  have a3 := asBuiltinNode
  have a4 := asBinaryNode
  go_enter Tryr.func13, Tryr.ntmps13
  go_wp2
  go_returns
  exact ⟨rfl, by repeat' (first | exact But.refl _ _ | apply But.alloc | apply But.drew)⟩
theorem binRight (b u : Nat) (op y : Value) (T c : Nat) (w : World) (h : w.heap[b]? = some (.cells (nodeC u #[op, y, (.iface T (.pointer (some ⟨c, 0, none⟩)))]) 81 (0, 0))) :
    Calls Tryr.prog 14 #[.agg #[(.iface 79 (.pointer (some ⟨b, 0, none⟩)))]] w fun e w' => e = .returned (.agg #[(.iface T (.pointer (some ⟨c, 0, none⟩)))]) ∧ But (fun _ => False) w w' := by
  have c1 : (w.alloc (.cells #[(.iface 79 (.pointer (some ⟨b, 0, none⟩)))] 47)).cell? ⟨b, 13, none⟩ = some (.iface T (.pointer (some ⟨c, 0, none⟩))) := field (j := 2) (h_old _ h) rfl
  have c2 : ((w.alloc (.cells #[(.iface 79 (.pointer (some ⟨b, 0, none⟩)))] 47)).alloc (.cells #[.nilIface] 47)).cell? ⟨b, 13, none⟩ = some (.iface T (.pointer (some ⟨c, 0, none⟩))) := field (j := 2) (h_old _ (h_old _ h)) rfl
  have a1 := asIdentifierNode
  have a2 := asPredicateNode
  have a3 := asBuiltinNode
  have a4 := asBinaryNode
  go_enter Tryr.func14, Tryr.ntmps14
  go_wp2
  go_returns
  exact ⟨rfl, by repeat' (first | exact But.refl _ _ | apply But.alloc | apply But.drew)⟩
theorem predBody (b u : Nat) (T c : Nat) (w : World) (h : w.heap[b]? = some (.cells (nodeC u #[(.iface T (.pointer (some ⟨c, 0, none⟩)))]) 75 (0, 0))) :
    Calls Tryr.prog 19 #[.agg #[(.iface 73 (.pointer (some ⟨b, 0, none⟩)))]] w fun e w' => e = .returned (.agg #[(.iface T (.pointer (some ⟨c, 0, none⟩)))]) ∧ But (fun _ => False) w w' := by
  have c1 : (w.alloc (.cells #[(.iface 73 (.pointer (some ⟨b, 0, none⟩)))] 47)).cell? ⟨b, 11, none⟩ = some (.iface T (.pointer (some ⟨c, 0, none⟩))) := field (j := 0) (h_old _ h) rfl
  have c2 : ((w.alloc (.cells #[(.iface 73 (.pointer (some ⟨b, 0, none⟩)))] 47)).alloc (.cells #[.nilIface] 47)).cell? ⟨b, 11, none⟩ = some (.iface T (.pointer (some ⟨c, 0, none⟩))) := field (j := 0) (h_old _ (h_old _ h)) rfl
  have a1 := asIdentifierNode
  have a2 := asPredicateNode
  have a3 := asBuiltinNode
  have a4 := asBinaryNode
  go_enter Tryr.func19, Tryr.ntmps19
  go_wp2
  go_returns
  exact ⟨rfl, by repeat' (first | exact But.refl _ _ | apply But.alloc | apply But.drew)⟩
theorem builtinName (b u : Nat) (nm : ByteArray) (a x y z : Value) (w : World) (h : w.heap[b]? = some (.cells (nodeC u #[.string nm, a, x, y, z]) 78 (0, 0))) :
    Calls Tryr.prog 15 #[.agg #[(.iface 72 (.pointer (some ⟨b, 0, none⟩)))]] w fun e w' => e = .returned (.tuple #[.string nm, .bool true]) ∧ But (fun _ => False) w w' := by
  have c1 : (w.alloc (.cells #[(.iface 72 (.pointer (some ⟨b, 0, none⟩)))] 47)).cell? ⟨b, 11, none⟩ = some (.string nm) := field (j := 0) (h_old _ h) rfl
  have a1 := asIdentifierNode
  have a2 := asPredicateNode
  have a3 := asBuiltinNode
  have a4 := asBinaryNode
  go_enter Tryr.func15, Tryr.ntmps15
  go_wp2
  go_returns
  exact ⟨rfl, by repeat' (first | exact But.refl _ _ | apply But.alloc | apply But.drew)⟩
theorem builtinArgCount (b u : Nat) (s : Option Addr) (n c : Nat) (nm x y z : Value) (w : World) (h : w.heap[b]? = some (.cells (nodeC u #[nm, .slice s n c, x, y, z]) 78 (0, 0))) :
    Calls Tryr.prog 16 #[.agg #[(.iface 72 (.pointer (some ⟨b, 0, none⟩)))]] w fun e w' => e = .returned (.int .i64 n) ∧ But (fun _ => False) w w' := by
  have c1 : (w.alloc (.cells #[(.iface 72 (.pointer (some ⟨b, 0, none⟩)))] 47)).cell? ⟨b, 12, none⟩ = some (.slice s n c) := field (j := 1) (h_old _ h) rfl
  have a1 := asIdentifierNode
  have a2 := asPredicateNode
  have a3 := asBuiltinNode
  have a4 := asBinaryNode
  go_enter Tryr.func16, Tryr.ntmps16
  go_wp2
  go_returns
  exact ⟨rfl, by repeat' (first | exact But.refl _ _ | apply But.alloc | apply But.drew)⟩
theorem builtinArg0 (b u g cap T c : Nat) (nm x y z : Value) (w : World) (h : w.heap[b]? = some (.cells (nodeC u #[nm, .slice (some ⟨g, 0, none⟩) 2 cap, x, y, z]) 78 (0, 0))) (hc : w.cell? ⟨g, 0, none⟩ = some (.iface T (.pointer (some ⟨c, 0, none⟩)))) :
    Calls Tryr.prog 18 #[.agg #[(.iface 72 (.pointer (some ⟨b, 0, none⟩)))], .int .i64 0] w fun e w' => e = .returned (.agg #[(.iface T (.pointer (some ⟨c, 0, none⟩)))]) ∧ But (fun _ => False) w w' := by
  have c1 : ((w.alloc (.cells #[(.iface 72 (.pointer (some ⟨b, 0, none⟩)))] 47)).alloc (.cells #[.nilIface] 47)).cell? ⟨b, 12, none⟩ = some (.slice (some ⟨g, 0, none⟩) 2 cap) := field (j := 1) (h_old _ (h_old _ h)) rfl
  have c2 : ((w.alloc (.cells #[(.iface 72 (.pointer (some ⟨b, 0, none⟩)))] 47)).alloc (.cells #[.nilIface] 47)).cell? ⟨g, 0, none⟩ = some (.iface T (.pointer (some ⟨c, 0, none⟩))) := up (up hc)
  have a1 := asIdentifierNode
  have a2 := asPredicateNode
  have a3 := asBuiltinNode
  have a4 := asBinaryNode
  go_enter Tryr.func18, Tryr.ntmps18
  go_wp2
  go_returns
  exact ⟨rfl, by repeat' (first | exact But.refl _ _ | apply But.alloc | apply But.drew)⟩
theorem builtinArg1 (b u g cap T c : Nat) (nm x y z : Value) (w : World) (h : w.heap[b]? = some (.cells (nodeC u #[nm, .slice (some ⟨g, 0, none⟩) 2 cap, x, y, z]) 78 (0, 0))) (hc : w.cell? ⟨g, 1, none⟩ = some (.iface T (.pointer (some ⟨c, 0, none⟩)))) :
    Calls Tryr.prog 18 #[.agg #[(.iface 72 (.pointer (some ⟨b, 0, none⟩)))], .int .i64 1] w fun e w' => e = .returned (.agg #[(.iface T (.pointer (some ⟨c, 0, none⟩)))]) ∧ But (fun _ => False) w w' := by
  have c1 : ((w.alloc (.cells #[(.iface 72 (.pointer (some ⟨b, 0, none⟩)))] 47)).alloc (.cells #[.nilIface] 47)).cell? ⟨b, 12, none⟩ = some (.slice (some ⟨g, 0, none⟩) 2 cap) := field (j := 1) (h_old _ (h_old _ h)) rfl
  have c2 : ((w.alloc (.cells #[(.iface 72 (.pointer (some ⟨b, 0, none⟩)))] 47)).alloc (.cells #[.nilIface] 47)).cell? ⟨g, 1, none⟩ = some (.iface T (.pointer (some ⟨c, 0, none⟩))) := up (up hc)
  have a1 := asIdentifierNode
  have a2 := asPredicateNode
  have a3 := asBuiltinNode
  have a4 := asBinaryNode
  go_enter Tryr.func18, Tryr.ntmps18
  go_wp2
  go_returns
  exact ⟨rfl, by repeat' (first | exact But.refl _ _ | apply But.alloc | apply But.drew)⟩
theorem predRoot (rt ps T b : Nat) (w : World) (h : w.heap[rt]? = some (.cells #[(.iface T (.pointer (some ⟨b, 0, none⟩)))] 45 (0, 0))) :
    Calls Tryr.prog 9 #[.agg #[(.pointer (some ⟨rt, 0, none⟩)), .slice (some ⟨ps, 0, none⟩) 7 7]] w fun e w' => e = .returned (.agg #[(.iface T (.pointer (some ⟨b, 0, none⟩)))]) ∧ But (fun _ => False) w w' := by
  have c1 : ((w.alloc (.cells #[(.pointer (some ⟨rt, 0, none⟩)), .slice (some ⟨ps, 0, none⟩) 7 7] 41)).alloc (.cells #[.nilIface] 47)).cell? ⟨rt, 0, none⟩ = some (.iface T (.pointer (some ⟨b, 0, none⟩))) := cell_of (h_old _ (h_old _ h)) rfl
  have a1 := asIdentifierNode
  have a2 := asPredicateNode
  have a3 := asBuiltinNode
  have a4 := asBinaryNode
  go_enter Tryr.func9, Tryr.ntmps9
  go_wp2
  go_returns
  exact ⟨rfl, by repeat' (first | exact But.refl _ _ | apply But.alloc | apply But.drew)⟩
theorem predPart (rt ps T b i : Nat) (z : Int) (hz : z = (i : Int)) (hi : i < 7) (w : World) (h : w.cell? ⟨ps, i, none⟩ = some (.iface T (.pointer (some ⟨b, 0, none⟩)))) :
    Calls Tryr.prog 10 #[.agg #[(.pointer (some ⟨rt, 0, none⟩)), .slice (some ⟨ps, 0, none⟩) 7 7], .int .i64 z] w fun e w' => e = .returned (.agg #[(.iface T (.pointer (some ⟨b, 0, none⟩)))]) ∧ But (fun _ => False) w w' := by
  subst hz
  have c1 : ((w.alloc (.cells #[(.pointer (some ⟨rt, 0, none⟩)), .slice (some ⟨ps, 0, none⟩) 7 7] 41)).alloc (.cells #[.nilIface] 47)).cell? ⟨ps, i, none⟩ = some (.iface T (.pointer (some ⟨b, 0, none⟩))) := up (up h)
  have a1 := asIdentifierNode
  have a2 := asPredicateNode
  have a3 := asBuiltinNode
  have a4 := asBinaryNode
  go_enter Tryr.func10, Tryr.ntmps10
  go_wp2
  go_returns
  exact ⟨rfl, by repeat' (first | exact But.refl _ _ | apply But.alloc | apply But.drew)⟩
theorem predPart0 (rt ps T b : Nat) (w : World) (h : w.cell? ⟨ps, 0, none⟩ = some (.iface T (.pointer (some ⟨b, 0, none⟩)))) : Calls Tryr.prog 10 #[.agg #[(.pointer (some ⟨rt, 0, none⟩)), .slice (some ⟨ps, 0, none⟩) 7 7], .int .i64 0] w fun e w' => e = .returned (.agg #[(.iface T (.pointer (some ⟨b, 0, none⟩)))]) ∧ But (fun _ => False) w w' := predPart rt ps T b 0 0 rfl (by decide) w h
theorem predPart1 (rt ps T b : Nat) (w : World) (h : w.cell? ⟨ps, 1, none⟩ = some (.iface T (.pointer (some ⟨b, 0, none⟩)))) : Calls Tryr.prog 10 #[.agg #[(.pointer (some ⟨rt, 0, none⟩)), .slice (some ⟨ps, 0, none⟩) 7 7], .int .i64 1] w fun e w' => e = .returned (.agg #[(.iface T (.pointer (some ⟨b, 0, none⟩)))]) ∧ But (fun _ => False) w w' := predPart rt ps T b 1 1 rfl (by decide) w h
theorem predPart3 (rt ps T b : Nat) (w : World) (h : w.cell? ⟨ps, 3, none⟩ = some (.iface T (.pointer (some ⟨b, 0, none⟩)))) : Calls Tryr.prog 10 #[.agg #[(.pointer (some ⟨rt, 0, none⟩)), .slice (some ⟨ps, 0, none⟩) 7 7], .int .i64 3] w fun e w' => e = .returned (.agg #[(.iface T (.pointer (some ⟨b, 0, none⟩)))]) ∧ But (fun _ => False) w w' := predPart rt ps T b 3 3 rfl (by decide) w h
theorem predPart4 (rt ps T b : Nat) (w : World) (h : w.cell? ⟨ps, 4, none⟩ = some (.iface T (.pointer (some ⟨b, 0, none⟩)))) : Calls Tryr.prog 10 #[.agg #[(.pointer (some ⟨rt, 0, none⟩)), .slice (some ⟨ps, 0, none⟩) 7 7], .int .i64 4] w fun e w' => e = .returned (.agg #[(.iface T (.pointer (some ⟨b, 0, none⟩)))]) ∧ But (fun _ => False) w w' := predPart rt ps T b 4 4 rfl (by decide) w h
theorem predPart5 (rt ps T b : Nat) (w : World) (h : w.cell? ⟨ps, 5, none⟩ = some (.iface T (.pointer (some ⟨b, 0, none⟩)))) : Calls Tryr.prog 10 #[.agg #[(.pointer (some ⟨rt, 0, none⟩)), .slice (some ⟨ps, 0, none⟩) 7 7], .int .i64 5] w fun e w' => e = .returned (.agg #[(.iface T (.pointer (some ⟨b, 0, none⟩)))]) ∧ But (fun _ => False) w w' := predPart rt ps T b 5 5 rfl (by decide) w h
theorem predPart6 (rt ps T b : Nat) (w : World) (h : w.cell? ⟨ps, 6, none⟩ = some (.iface T (.pointer (some ⟨b, 0, none⟩)))) : Calls Tryr.prog 10 #[.agg #[(.pointer (some ⟨rt, 0, none⟩)), .slice (some ⟨ps, 0, none⟩) 7 7], .int .i64 6] w fun e w' => e = .returned (.agg #[(.iface T (.pointer (some ⟨b, 0, none⟩)))]) ∧ But (fun _ => False) w w' := predPart rt ps T b 6 6 rfl (by decide) w h
theorem toListInj {a b : ByteArray} (h : a.toList = b.toList) : a = b := by
  rw [ByteArray.toList_eq, ByteArray.toList_eq] at h
  exact ByteArray.ext (Array.toList_inj.mp h)
noncomputable def opS : Nat → ByteArray
  | 0 => ⟨#[38, 38]⟩
  | 1 => ⟨#[97, 110, 100]⟩
  | 2 => ⟨#[124, 124]⟩
  | 3 => ⟨#[111, 114]⟩
  | 4 => ⟨#[61, 61]⟩
  | _ => ⟨#[43]⟩
noncomputable def nmS : Nat → ByteArray
  | 0 => ⟨#[97, 108, 108]⟩
  | 1 => ⟨#[97, 110, 121]⟩
  | 2 => ⟨#[110, 111, 110, 101]⟩
  | 3 => ⟨#[111, 110, 101]⟩
  | _ => ⟨#[102, 105, 108, 116, 101, 114]⟩
/-- which operator a pair of name and operator combines with -/
def cmbK : Nat → Nat → Option Nat
  | 0, 0 => some 0
  | 0, 1 => some 1
  | 1, 2 => some 2
  | 1, 3 => some 3
  | 2, 0 => some 2
  | 2, 1 => some 3
  | _, _ => none
theorem zzOp (k : Nat) (hk : k ≤ 5) (w : World) : Calls Tryr.prog 5 #[.int .i64 k] w fun e w' => e = .returned (.string (opS k)) ∧ w' = w := by
  obtain rfl | rfl | rfl | rfl | rfl | rfl : k = 0 ∨ k = 1 ∨ k = 2 ∨ k = 3 ∨ k = 4 ∨ k = 5 := by omega
  all_goals
    simp only [opS]
    go_enter Tryr.func5, Tryr.ntmps5
    go_wp2
    go_ret
    exact ⟨rfl, rfl⟩
theorem zzName (k : Nat) (hk : k ≤ 4) (w : World) : Calls Tryr.prog 6 #[.int .i64 k] w fun e w' => e = .returned (.string (nmS k)) ∧ w' = w := by
  obtain rfl | rfl | rfl | rfl | rfl : k = 0 ∨ k = 1 ∨ k = 2 ∨ k = 3 ∨ k = 4 := by omega
  all_goals
    simp only [nmS]
    go_enter Tryr.func6, Tryr.ntmps6
    go_wp2
    go_ret
    exact ⟨rfl, rfl⟩
theorem isBoolT (k : Nat) (hk : k ≤ 3) (w : World) : Calls Tryr.prog 31 #[.string (opS k)] w fun e w' => e = .returned (.bool true) ∧ w' = w := by
  obtain rfl | rfl | rfl | rfl : k = 0 ∨ k = 1 ∨ k = 2 ∨ k = 3 := by omega
  all_goals
    simp only [opS]
    go_enter Tryr.func31, Tryr.ntmps31
    go_wp2
    go_ret
    exact ⟨rfl, rfl⟩
theorem isBoolF (k : Nat) (hk : k ≤ 5) (h3 : 3 < k) (w : World) : Calls Tryr.prog 31 #[.string (opS k)] w fun e w' => e = .returned (.bool false) ∧ w' = w := by
  obtain rfl | rfl : k = 4 ∨ k = 5 := by omega
  all_goals
    simp only [opS]
    go_enter Tryr.func31, Tryr.ntmps31
    go_wp2
    go_ret
    exact ⟨rfl, rfl⟩
theorem zzCombT (i k m : Nat) (hm : cmbK i k = some m) (w : World) : Calls Tryr.prog 11 #[.string (nmS i), .string (opS k)] w fun e w' => e = .returned (.tuple #[.string (opS m), .bool true]) ∧ w' = w := by
  obtain ⟨rfl, rfl, rfl⟩ | ⟨rfl, rfl, rfl⟩ | ⟨rfl, rfl, rfl⟩ | ⟨rfl, rfl, rfl⟩ | ⟨rfl, rfl, rfl⟩ | ⟨rfl, rfl, rfl⟩ : (i = 0 ∧ k = 0 ∧ m = 0) ∨ (i = 0 ∧ k = 1 ∧ m = 1) ∨ (i = 1 ∧ k = 2 ∧ m = 2) ∨ (i = 1 ∧ k = 3 ∧ m = 3) ∨ (i = 2 ∧ k = 0 ∧ m = 2) ∨ (i = 2 ∧ k = 1 ∧ m = 3) := by
    unfold cmbK at hm
    split at hm <;> simp at hm <;> omega
  all_goals
    simp only [nmS, opS]
    go_enter Tryr.func11, Tryr.ntmps11
    go_wp2
    go_returns
    exact ⟨rfl, rfl⟩
theorem zzCombF (i k : Nat) (hi : i ≤ 4) (hk : k ≤ 5) (hm : cmbK i k = none) (w : World) : Calls Tryr.prog 11 #[.string (nmS i), .string (opS k)] w fun e w' => e = .returned (.tuple #[.string ⟨#[]⟩, .bool false]) ∧ w' = w := by
  obtain rfl | rfl | rfl | rfl | rfl : i = 0 ∨ i = 1 ∨ i = 2 ∨ i = 3 ∨ i = 4 := by omega
  all_goals obtain rfl | rfl | rfl | rfl | rfl | rfl : k = 0 ∨ k = 1 ∨ k = 2 ∨ k = 3 ∨ k = 4 ∨ k = 5 := by omega
  all_goals first | (exfalso; simp [cmbK] at hm; done) | skip
  all_goals
    simp only [nmS, opS]
    go_enter Tryr.func11, Tryr.ntmps11
    go_wp2
    go_returns
    exact ⟨rfl, rfl⟩
theorem combOpT (i k m : Nat) (hm : cmbK i k = some m) (w : World) : Calls Tryr.prog 32 #[.string (nmS i), .string (opS k)] w fun e w' => e = .returned (.tuple #[.string (opS m), .bool true]) ∧ w' = w := by
  obtain ⟨rfl, rfl, rfl⟩ | ⟨rfl, rfl, rfl⟩ | ⟨rfl, rfl, rfl⟩ | ⟨rfl, rfl, rfl⟩ | ⟨rfl, rfl, rfl⟩ | ⟨rfl, rfl, rfl⟩ : (i = 0 ∧ k = 0 ∧ m = 0) ∨ (i = 0 ∧ k = 1 ∧ m = 1) ∨ (i = 1 ∧ k = 2 ∧ m = 2) ∨ (i = 1 ∧ k = 3 ∧ m = 3) ∨ (i = 2 ∧ k = 0 ∧ m = 2) ∨ (i = 2 ∧ k = 1 ∧ m = 3) := by
    unfold cmbK at hm
    split at hm <;> simp at hm <;> omega
  all_goals
    simp only [nmS, opS]
    go_enter Tryr.func32, Tryr.ntmps32
    go_wp2
    go_returns
    exact ⟨rfl, rfl⟩
theorem combOpF (i k : Nat) (hi : i ≤ 4) (hk : k ≤ 5) (hm : cmbK i k = none) (w : World) : Calls Tryr.prog 32 #[.string (nmS i), .string (opS k)] w fun e w' => e = .returned (.tuple #[.string ⟨#[]⟩, .bool false]) ∧ w' = w := by
  obtain rfl | rfl | rfl | rfl | rfl : i = 0 ∨ i = 1 ∨ i = 2 ∨ i = 3 ∨ i = 4 := by omega
  all_goals obtain rfl | rfl | rfl | rfl | rfl | rfl : k = 0 ∨ k = 1 ∨ k = 2 ∨ k = 3 ∨ k = 4 ∨ k = 5 := by omega
  all_goals first | (exfalso; simp [cmbK] at hm; done) | skip
  all_goals
    simp only [nmS, opS]
    go_enter Tryr.func32, Tryr.ntmps32
    go_wp2
    go_returns
    exact ⟨rfl, rfl⟩
end Go.Proofs.YtiddjmnknndcaaaReflFmt.opt
