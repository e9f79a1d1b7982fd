/-
What package reflect's entries answer for a bool in a variable, what fmt.Sprintf is asked at "%t", and BoolNode.String, each over this cut. Condition: the cell that is read holds a bool.
-/
import Derived.Test.YtddimfehmmnaeaaReflFmtChecked
import Derived.WalkKit
import Derived.ProofKit
import Derived.OpenShut
import Derived.Outline
import Derived.WalkLawsBesides
import Derived.WalkSpells
import Derived.Handy
import Derived.Laws.Externs
import Derived.Stop.Asserts
import Derived.Stop.CallBack
import Derived.Stop.IfaceNil
import GoSem.ClaimData
namespace Go.Proofs.YtddimfehmmnaeaaReflFmt.ext
open Go Go.Proofs Go.RowKit
open Go.Extern.Stop Go.Stop Go.Extern
set_option maxRecDepth 100000
set_option maxHeartbeats 400000
/-! reflect's answers for a bool in a variable -/
noncomputable def V (a : Addr) : Value := .agg #[typeHandle Tryr.prog 4, .pointer (some a), .int .u64 129]
noncomputable def RV (a : Addr) : Extern.Rvalue.V := { t := 4, a := a, flag := 129 }
theorem valueOf (b : Bool) (w : World) : (callFunc 9 #[.iface 4 (.bool b)]).run Tryr.prog w = .ok (.value (V ⟨w.heap.size, 0, none⟩)) (w.alloc (.cells #[.bool b] 4)) := by kernel_rfl
theorem parts (a : Addr) (w : World) : (Extern.Rvalue.partsAny (V a)).run Tryr.prog w = .ok (some (RV a)) w := by kernel_rfl
theorem parts' (a : Addr) (w : World) : (Extern.Rvalue.parts (V a)).run Tryr.prog w = .ok (some (RV a)) w := by kernel_rfl
theorem isValid (a : Addr) (w : World) : (callFunc 10 #[V a]).run Tryr.prog w = .ok (.value (.bool true)) w := by kernel_rfl
theorem kind (a : Addr) (w : World) : (callFunc 11 #[V a]).run Tryr.prog w = .ok (.value (.int .u64 1)) w := by kernel_rfl
theorem canI (a : Addr) (w : World) : (callFunc 13 #[V a]).run Tryr.prog w = .ok (.value (.bool true)) w := by kernel_rfl
theorem get (a : Addr) (v : Value) (w : World) (h : w.cell? a = some v) : ((RV a).get).run Tryr.prog w = .ok v w := by
  have h1 : (isAgg 4).run Tryr.prog w = .ok false w := by kernel_rfl
  unfold Extern.Rvalue.V.get loadVar RV
  simp [Sem.run_bind, h1, Result.andThen, h]
theorem iface0 (a : Addr) (v : Value) (w : World) (h : w.cell? a = some v) : (callFunc 14 #[V a]).run Tryr.prog w = .ok (.value (.iface 4 v)) w := by
  rw [run_callFunc_extern Tryr.func14 (by kernel_rfl) (by kernel_rfl) (by kernel_rfl) (e := Extern.ReflectRead.interface) (by kernel_rfl)]
  unfold Extern.ReflectRead.interface Extern.Rvalue.methodAny
  have h2 : (#[V a] : Array Value).getD 0 (.tuple #[]) = V a := rfl
  have h3 : (RV a).readOnly = false := by kernel_rfl
  have h4 : (RV a).kind = 1 := by kernel_rfl
  simp [Sem.run_bind, h2, parts, Result.andThen, h3, h4, get a v w h]
  rfl
end Go.Proofs.YtddimfehmmnaeaaReflFmt.ext
namespace Go.Proofs.YtddimfehmmnaeaaReflFmt.ext
open Go Go.Proofs Go.RowKit
open Go.Extern.Stop Go.Stop Go.Extern
set_option maxRecDepth 100000
set_option maxHeartbeats 400000
theorem bool0 (a : Addr) (b : Bool) (w : World) (h : w.cell? a = some (.bool b)) : (callFunc 18 #[V a]).run Tryr.prog w = .ok (.value (.bool b)) w := by
  rw [run_callFunc_extern Tryr.func18 (by kernel_rfl) (by kernel_rfl) (by kernel_rfl) (e := Extern.Rvalue.method "Bool" fun v _ => do if v.kind != 1 then Extern.Rvalue.wrongKind "Bool" v else v.get) (by kernel_rfl)]
  unfold Extern.Rvalue.method
  have h2 : (#[V a] : Array Value).getD 0 (.tuple #[]) = V a := rfl
  have h4 : (RV a).kind = 1 := by kernel_rfl
  simp [Sem.run_bind, h2, parts', Result.andThen, h4, get a _ w h]
theorem call6 (args : Array Value) (w : World) : (callFunc 6 args).run Tryr.prog w = ((FmtStop.sprintf #[9, 278] #[9] args).run Tryr.prog w).andThen fun v w' => .ok (.value v) w' :=
  run_callFunc_extern Tryr.func6 (by kernel_rfl) (by kernel_rfl) (by kernel_rfl) (by kernel_rfl) args w
theorem guard (name : String) (w : World) : (FmtStop.guard name).run Tryr.prog w = .ok () w := by kernel_rfl
theorem fmt2 : FmtStop.printed? ⟨#[37, 116]⟩ 1 = some [(0, 116, false)] := by kernel_rfl
theorem fmt2r (w : World) : (FmtDoors.printed ⟨#[37, 116]⟩ 1).run Tryr.prog w = .ok [(0, 116, false)] w := by kernel_rfl
def shape4 : List UInt8 := [1, 4, 0, 0, 0, 0, 0, 0, 0, 98, 111, 111, 108]
theorem op4_116 (name : String) (x : Bool) (w : World) : (FmtStop.operand name false 116 false (.iface 4 (.bool x))).run Tryr.prog w = .ok (shape4, [if x then 1 else 0]) w := by kernel_rfl
/-- what F is asked -/
def reading (b : Bool) : List (List UInt8) := [[37, 116], shape4, [if b then 1 else 0]]
def boolText (b : Bool) : List UInt8 := if b then [116, 114, 117, 101] else [102, 97, 108, 115, 101]
theorem BoolString (F : Interp) (b : Bool) (n : Nat) (w : World) (hF : F.answers w.tape) (hc : w.cell? ⟨n, 11, none⟩ = some (.bool b)) :
    Calls Tryr.prog 4 #[.pointer (some ⟨n, 0, none⟩)] w fun e w' => e = .returned (.string (FmtStop.textOf (F "fmt.Sprintf" (reading b) 0))) ∧ Below w.heap.size w w' := by
  have hF' := answers_open hF
  have g1 := call6
  have g2 := guard
  have g3 := fmt2
  have g4 := fmt2r
  have g5 := op4_116
  go_enter Tryr.func4, Tryr.ntmps4
  go_wp2_with fail
  all_goals
    go_ret
    exact ⟨rfl, ((Below.refl _ _).alloc (Nat.le_refl _) _).drew⟩
end Go.Proofs.YtddimfehmmnaeaaReflFmt.ext
