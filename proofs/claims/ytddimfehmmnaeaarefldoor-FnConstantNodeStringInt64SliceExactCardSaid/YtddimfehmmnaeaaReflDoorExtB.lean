/-
What package reflect's entries answer for a []int64 and for its elements, each as an equation that the kernel reckons. Condition: the cell that is read holds what is named.
-/
import Derived.Test.YtddimfehmmnaeaaReflDoorWalk
import Derived.Laws.Externs
namespace Go.Proofs.YtddimfehmmnaeaaReflDoor.ext4
open Go Go.Proofs Go.RowKit
open Go.Proofs.YtddimfehmmnaeaaReflDoor.ext Go.Proofs.YtddimfehmmnaeaaReflDoor.walk
set_option maxRecDepth 100000
set_option maxHeartbeats 400000
/-! an element of a []int64, as reflect's Index hands it out -/
noncomputable def U (a : Addr) : Value := .agg #[typeHandle Tryr.prog 2, .pointer (some a), .int .u64 390]
noncomputable def RU (a : Addr) : Extern.Rvalue.V := { t := 2, a := a, flag := 390 }
theorem parts (a : Addr) (w : World) : (Extern.Rvalue.partsAny (U a)).run Tryr.prog w = .ok (some (RU a)) w := by kernel_rfl
theorem parts' (a : Addr) (w : World) : (Extern.Rvalue.parts (U a)).run Tryr.prog w = .ok (some (RU a)) w := by kernel_rfl
theorem isValid (a : Addr) (w : World) : (callFunc 13 #[U a]).run Tryr.prog w = .ok (.value (.bool true)) w := by kernel_rfl
theorem kind (a : Addr) (w : World) : (callFunc 14 #[U a]).run Tryr.prog w = .ok (.value (.int .u64 6)) w := by kernel_rfl
theorem canI (a : Addr) (w : World) : (callFunc 16 #[U a]).run Tryr.prog w = .ok (.value (.bool true)) w := by kernel_rfl
theorem get (a : Addr) (v : Value) (w : World) (h : w.cell? a = some v) : ((RU a).get).run Tryr.prog w = .ok v w := by
  have h1 : (isAgg 2).run Tryr.prog w = .ok false w := by kernel_rfl
  unfold Extern.Rvalue.V.get loadVar RU
  simp [Sem.run_bind, h1, Result.andThen, h]
theorem iface0 (a : Addr) (v : Value) (w : World) (h : w.cell? a = some v) : (callFunc 17 #[U a]).run Tryr.prog w = .ok (.value (.iface 2 v)) w := by
  rw [run_callFunc_extern Tryr.func17 (by kernel_rfl) (by kernel_rfl) (by kernel_rfl) (e := Extern.ReflectRead.interface) (by kernel_rfl)]
  unfold Extern.ReflectRead.interface Extern.Rvalue.methodAny
  have h2 : (#[U a] : Array Value).getD 0 (.tuple #[]) = U a := rfl
  have h3 : (RU a).readOnly = false := by kernel_rfl
  have h4 : (RU a).kind = 6 := by kernel_rfl
  simp [Sem.run_bind, h2, parts, Result.andThen, h3, h4, get a v w h]
  rfl
theorem int0 (a : Addr) (n : Int) (w : World) (h : w.cell? a = some (.int .i64 n)) : (callFunc 23 #[U a]).run Tryr.prog w = .ok (.value (.int .i64 n)) w := by
  rw [run_callFunc_extern Tryr.func23 (by kernel_rfl) (by kernel_rfl) (by kernel_rfl) (e := Extern.ReflectRead.number "Int" 2 6 .i64) (by kernel_rfl)]
  unfold Extern.ReflectRead.number Extern.Rvalue.method
  have h2 : (#[U a] : Array Value).getD 0 (.tuple #[]) = U a := rfl
  have h4 : (RU a).kind = 6 := by kernel_rfl
  simp [Sem.run_bind, h2, parts', Result.andThen, h4, get a _ w h]
  rfl
/-! a []int64 -/
noncomputable def S (a : Addr) : Value := .agg #[typeHandle Tryr.prog 53, .pointer (some a), .int .u64 151]
noncomputable def RS (a : Addr) : Extern.Rvalue.V := { t := 53, a := a, flag := 151 }
theorem valueOf_s (v : Value) (hv : v.cells = #[v]) (w : World) : (callFunc 12 #[.iface 53 v]).run Tryr.prog w = .ok (.value (S ⟨w.heap.size, 0, none⟩)) (w.alloc (.cells #[v] 53)) := by
  have : (callFunc 12 #[.iface 53 v]).run Tryr.prog w = .ok (.value (S ⟨w.heap.size, 0, none⟩)) (w.alloc (.cells v.cells 53)) := by kernel_rfl
  rw [this, hv]
theorem sparts (a : Addr) (w : World) : (Extern.Rvalue.partsAny (S a)).run Tryr.prog w = .ok (some (RS a)) w := by kernel_rfl
theorem sparts' (a : Addr) (w : World) : (Extern.Rvalue.parts (S a)).run Tryr.prog w = .ok (some (RS a)) w := by kernel_rfl
theorem sIsValid (a : Addr) (w : World) : (callFunc 13 #[S a]).run Tryr.prog w = .ok (.value (.bool true)) w := by kernel_rfl
theorem sKind (a : Addr) (w : World) : (callFunc 14 #[S a]).run Tryr.prog w = .ok (.value (.int .u64 23)) w := by kernel_rfl
theorem sCanI (a : Addr) (w : World) : (callFunc 16 #[S a]).run Tryr.prog w = .ok (.value (.bool true)) w := by kernel_rfl
theorem sType (a : Addr) (w : World) : (callFunc 18 #[S a]).run Tryr.prog w = .ok (.value (.iface 102 (typeHandle Tryr.prog 53))) w := by kernel_rfl
theorem sElem (w : World) : (callFunc 311 #[typeHandle Tryr.prog 53]).run Tryr.prog w = .ok (.value (.iface 102 (typeHandle Tryr.prog 2))) w := by kernel_rfl
theorem sElemKind (w : World) : (callFunc 323 #[typeHandle Tryr.prog 2]).run Tryr.prog w = .ok (.value (.int .u64 6)) w := by kernel_rfl
theorem sget (a : Addr) (v : Value) (w : World) (h : w.cell? a = some v) : ((RS a).get).run Tryr.prog w = .ok v w := by
  have h1 : (isAgg 53).run Tryr.prog w = .ok false w := by kernel_rfl
  unfold Extern.Rvalue.V.get loadVar RS
  simp [Sem.run_bind, h1, Result.andThen, h]
theorem sIface (a : Addr) (v : Value) (w : World) (h : w.cell? a = some v) : (callFunc 17 #[S a]).run Tryr.prog w = .ok (.value (.iface 53 v)) w := by
  rw [run_callFunc_extern Tryr.func17 (by kernel_rfl) (by kernel_rfl) (by kernel_rfl) (e := Extern.ReflectRead.interface) (by kernel_rfl)]
  unfold Extern.ReflectRead.interface Extern.Rvalue.methodAny
  have h2 : (#[S a] : Array Value).getD 0 (.tuple #[]) = S a := rfl
  have h3 : (RS a).readOnly = false := by kernel_rfl
  have h4 : (RS a).kind = 23 := by kernel_rfl
  simp [Sem.run_bind, h2, sparts, Result.andThen, h3, h4, sget a v w h]
  rfl
theorem sIsNil_yes (a : Addr) (w : World) (h : w.cell? a = some (.slice none 0 0)) : (callFunc 15 #[S a]).run Tryr.prog w = .ok (.value (.bool true)) w := by
  rw [run_callFunc_extern Tryr.func15 (by kernel_rfl) (by kernel_rfl) (by kernel_rfl) (e := Extern.ReflectRead.isNil) (by kernel_rfl)]
  unfold Extern.ReflectRead.isNil Extern.Rvalue.method
  have h2 : (#[S a] : Array Value).getD 0 (.tuple #[]) = S a := rfl
  have h4 : (RS a).kind = 23 := by kernel_rfl
  simp [Sem.run_bind, h2, sparts', Result.andThen, h4, sget a _ w h]
theorem sIsNil_no (a b : Addr) (n c : Nat) (w : World) (h : w.cell? a = some (.slice (some b) n c)) : (callFunc 15 #[S a]).run Tryr.prog w = .ok (.value (.bool false)) w := by
  rw [run_callFunc_extern Tryr.func15 (by kernel_rfl) (by kernel_rfl) (by kernel_rfl) (e := Extern.ReflectRead.isNil) (by kernel_rfl)]
  unfold Extern.ReflectRead.isNil Extern.Rvalue.method
  have h2 : (#[S a] : Array Value).getD 0 (.tuple #[]) = S a := rfl
  have h4 : (RS a).kind = 23 := by kernel_rfl
  simp [Sem.run_bind, h2, sparts', Result.andThen, h4, sget a _ w h]
theorem und (w : World) : ∃ R, (Extern.Rtype.under 53).run Tryr.prog w = .ok (53, R) w ∧ R.desc = .slice 2 := ⟨(Tryr.prog.types[53]?).get (by kernel_rfl), by kernel_rfl, by kernel_rfl⟩
theorem sIndex (a b : Addr) (n c : Nat) (i : Nat) (hi : i < n) (w : World) (h : w.cell? a = some (.slice (some b) n c)) : (callFunc 35 #[S a, .int .i64 i]).run Tryr.prog w = .ok (.value (U (b.add i))) w := by
  rw [run_callFunc_extern Tryr.func35 (by kernel_rfl) (by kernel_rfl) (by kernel_rfl) (e := Extern.ReflectWalk.index) (by kernel_rfl)]
  unfold Extern.ReflectWalk.index Extern.Rvalue.method
  have h2 : (#[S a, .int .i64 i] : Array Value).getD 0 (.tuple #[]) = S a := rfl
  have h8 : (RS a).t = 53 := rfl
  have h9 : (asInt (.int .i64 i)).run Tryr.prog w = .ok (i : Int) w := by kernel_rfl
  have h10 : (Go.sizeOf 2).run Tryr.prog w = .ok 1 w := by kernel_rfl
  have h11 : ∀ b, (Extern.Rvalue.mk 2 b ((RS a).ro + Extern.Rvalue.flagAddr)).run Tryr.prog w = .ok (U b) w := fun b => by kernel_rfl
  obtain ⟨R, hu, hd⟩ := und w
  simp [Sem.run_bind, h2, sparts', Result.andThen, sget a _ w h, h8, h9, hu, hd, h10, h11, hi]
  done
theorem sLen (a b : Addr) (n c : Nat) (w : World) (h : w.cell? a = some (.slice (some b) n c)) : (callFunc 33 #[S a]).run Tryr.prog w = .ok (.value (.int .i64 n)) w := by
  rw [run_callFunc_extern Tryr.func33 (by kernel_rfl) (by kernel_rfl) (by kernel_rfl) (e := Extern.ReflectRead.size "Len" [17, 18, 21, 23, 24] Builtin.len_) (by kernel_rfl)]
  unfold Extern.ReflectRead.size Extern.Rvalue.method
  have h2 : (#[S a] : Array Value).getD 0 (.tuple #[]) = S a := rfl
  have h4 : (RS a).kind = 23 := by kernel_rfl
  have h5 : (Extern.Rtype.elem? 53).run Tryr.prog w = .ok (some 2) w := by kernel_rfl
  have h7 : (Builtin.len_ #[53] 0 #[.slice (some b) n c]).run Tryr.prog w = .ok (.int .i64 n) w := by kernel_rfl
  have h8 : (RS a).t = 53 := rfl
  have h9 := sparts' a w
  have h10 := sget a _ w h
  have hk : (![17, 18, 21, 23, 24].contains 23) = false := rfl
  have hk2 : ((23:Nat) == 22) = false := rfl
  obtain ⟨R, hu, hd⟩ := und w
  rw [h2]
  generalize S a = s at *
  generalize RS a = r at *
  generalize Tryr.prog = P at *
  simp only [Sem.run_bind, h9, Result.andThen, h4, hk, hk2, Bool.false_eq_true, if_false, h8, h5, hu, hd, h10, h7]
end Go.Proofs.YtddimfehmmnaeaaReflDoor.ext4
