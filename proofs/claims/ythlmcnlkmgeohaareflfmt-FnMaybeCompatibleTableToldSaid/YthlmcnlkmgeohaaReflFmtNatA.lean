/-
What reflect answers for the seventeen types over this cut, by the kernel. No condition.
-/
import Derived.Test.YthlmcnlkmgeohaaReflFmtChecked
import Derived.WalkKit
import Derived.ProofKit
import Derived.OpenShut
import Derived.Outline
import Derived.WalkLawsBesides
import Derived.WalkSpells
import Derived.Handy
import Derived.Laws.Externs
namespace Go.Proofs.YthlmcnlkmgeohaaReflFmt.nat
open Go Go.Proofs Go.RowKit
set_option maxRecDepth 100000
set_option maxHeartbeats 1000000
/-- reflect.TypeOf: the type's handle, whatever the value -/
theorem typeOf (t : Nat) (v : Value) (w : World) : (callFunc 32 #[.iface t v]).run Tryr.prog w = .ok (.value (.iface 76 (.pointer (some ⟨0, t, none⟩)))) w := by kernel_rfl
theorem same (w : World) (b t t' : Nat) : (sameAddr ⟨b, t, none⟩ ⟨b, t', none⟩).run Tryr.prog w = .ok (t == t') w := by
  by_cases h : t = t'
  · simp [sameAddr, h]
  · have e1 : ((⟨b, t, none⟩ : Addr) == ⟨b, t', none⟩) = false := by
      rw [beq_eq_false_iff_ne]
      intro e
      exact h (by cases e; rfl)
    have e2 : (t == t') = false := beq_eq_false_iff_ne.2 h
    simp [sameAddr, e1, e2]
theorem eql_same (w : World) (t t' : Nat) : (binOp .eql 46 (.iface 76 (.pointer (some ⟨0, t, none⟩))) (.iface 76 (.pointer (some ⟨0, t', none⟩)))).run Tryr.prog w = ((sameAddr ⟨0, t, none⟩ ⟨0, t', none⟩).run Tryr.prog w).andThen fun b w' => .ok (.bool b) w' := by kernel_rfl
/-- two types are the same where their numbers are -/
theorem eql (w : World) (t t' : Nat) : (binOp .eql 46 (.iface 76 (.pointer (some ⟨0, t, none⟩))) (.iface 76 (.pointer (some ⟨0, t', none⟩)))).run Tryr.prog w = .ok (.bool (t == t')) w := by
  rw [eql_same, same]; rfl
theorem kind_int (w : World) : (callFunc 214 #[.pointer (some ⟨0, 3, none⟩)]).run Tryr.prog w = .ok (.value (.int .u64 2)) w := by kernel_rfl
theorem kind_int64 (w : World) : (callFunc 214 #[.pointer (some ⟨0, 2, none⟩)]).run Tryr.prog w = .ok (.value (.int .u64 6)) w := by kernel_rfl
theorem kind_uint8 (w : World) : (callFunc 214 #[.pointer (some ⟨0, 5, none⟩)]).run Tryr.prog w = .ok (.value (.int .u64 8)) w := by kernel_rfl
theorem kind_float64 (w : World) : (callFunc 214 #[.pointer (some ⟨0, 27, none⟩)]).run Tryr.prog w = .ok (.value (.int .u64 14)) w := by kernel_rfl
theorem kind_string (w : World) : (callFunc 214 #[.pointer (some ⟨0, 9, none⟩)]).run Tryr.prog w = .ok (.value (.int .u64 24)) w := by kernel_rfl
theorem kind_bool (w : World) : (callFunc 214 #[.pointer (some ⟨0, 4, none⟩)]).run Tryr.prog w = .ok (.value (.int .u64 1)) w := by kernel_rfl
theorem kind_duration (w : World) : (callFunc 214 #[.pointer (some ⟨0, 62, none⟩)]).run Tryr.prog w = .ok (.value (.int .u64 6)) w := by kernel_rfl
theorem kind_time (w : World) : (callFunc 214 #[.pointer (some ⟨0, 65, none⟩)]).run Tryr.prog w = .ok (.value (.int .u64 25)) w := by kernel_rfl
theorem kind_anys (w : World) : (callFunc 214 #[.pointer (some ⟨0, 66, none⟩)]).run Tryr.prog w = .ok (.value (.int .u64 23)) w := by kernel_rfl
theorem kind_ints (w : World) : (callFunc 214 #[.pointer (some ⟨0, 67, none⟩)]).run Tryr.prog w = .ok (.value (.int .u64 23)) w := by kernel_rfl
theorem kind_any (w : World) : (callFunc 214 #[.pointer (some ⟨0, 20, none⟩)]).run Tryr.prog w = .ok (.value (.int .u64 20)) w := by kernel_rfl
theorem kind_error (w : World) : (callFunc 214 #[.pointer (some ⟨0, 25, none⟩)]).run Tryr.prog w = .ok (.value (.int .u64 20)) w := by kernel_rfl
theorem kind_map (w : World) : (callFunc 214 #[.pointer (some ⟨0, 71, none⟩)]).run Tryr.prog w = .ok (.value (.int .u64 21)) w := by kernel_rfl
theorem kind_month (w : World) : (callFunc 214 #[.pointer (some ⟨0, 72, none⟩)]).run Tryr.prog w = .ok (.value (.int .u64 2)) w := by kernel_rfl
theorem kind_ptr (w : World) : (callFunc 214 #[.pointer (some ⟨0, 73, none⟩)]).run Tryr.prog w = .ok (.value (.int .u64 22)) w := by kernel_rfl
theorem elem_any (w : World) : (callFunc 202 #[.pointer (some ⟨0, 68, none⟩)]).run Tryr.prog w = .ok (.value (.iface 76 (.pointer (some ⟨0, 20, none⟩)))) w := by kernel_rfl
theorem elem_error (w : World) : (callFunc 202 #[.pointer (some ⟨0, 70, none⟩)]).run Tryr.prog w = .ok (.value (.iface 76 (.pointer (some ⟨0, 25, none⟩)))) w := by kernel_rfl
end Go.Proofs.YthlmcnlkmgeohaaReflFmt.nat
