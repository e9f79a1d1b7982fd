/-
What the Nature of a builtin number is, over this cut: reflect's answers for the thirteen types, by the kernel. No condition.
-/
import Derived.Test.YtikelicjllfgeaaReflChecked
import Derived.WalkKit
import Derived.ProofKit
import Derived.OpenShut
import Derived.Outline
import Derived.WalkLawsBesides
import Derived.WalkSpells
import Derived.Handy
import Derived.Laws.Externs
namespace Go.Proofs.YtikelicjllfgeaaRefl.nat
open Go Go.Proofs Go.RowKit
set_option maxRecDepth 100000
set_option maxHeartbeats 1000000
/-- reflect.TypeOf: the type's handle, whatever the value -/
theorem typeOf (t : Nat) (v : Value) (w : World) : (callFunc 47 #[.iface t v]).run Tryr.prog w = .ok (.value (.iface 89 (.pointer (some ⟨0, t, none⟩)))) w := by kernel_rfl
theorem same (w : World) (b t t' : Nat) : (sameAddr ⟨b, t, none⟩ ⟨b, t', none⟩).run Tryr.prog w = .ok (t == t') w := by
  by_cases h : t = t'
  · simp [sameAddr, h]
  · have e1 : ((⟨b, t, none⟩ : Addr) == ⟨b, t', none⟩) = false := by simp [h]
    have e2 : (t == t') = false := by simp [h]
    simp [sameAddr, e1, e2]
theorem eql_same (w : World) (t t' : Nat) : (binOp .eql 44 (.iface 89 (.pointer (some ⟨0, t, none⟩))) (.iface 89 (.pointer (some ⟨0, t', none⟩)))).run Tryr.prog w = ((sameAddr ⟨0, t, none⟩ ⟨0, t', none⟩).run Tryr.prog w).andThen fun b w' => .ok (.bool b) w' := by kernel_rfl
/-- two types are the same where their numbers are -/
theorem eql (w : World) (t t' : Nat) : (binOp .eql 44 (.iface 89 (.pointer (some ⟨0, t, none⟩))) (.iface 89 (.pointer (some ⟨0, t', none⟩)))).run Tryr.prog w = .ok (.bool (t == t')) w := by
  rw [eql_same, same]; rfl
theorem kind_int (w : World) : (callFunc 218 #[.pointer (some ⟨0, 3, none⟩)]).run Tryr.prog w = .ok (.value (.int .u64 2)) w := by kernel_rfl
theorem kind_int8 (w : World) : (callFunc 218 #[.pointer (some ⟨0, 29, none⟩)]).run Tryr.prog w = .ok (.value (.int .u64 3)) w := by kernel_rfl
theorem kind_int16 (w : World) : (callFunc 218 #[.pointer (some ⟨0, 28, none⟩)]).run Tryr.prog w = .ok (.value (.int .u64 4)) w := by kernel_rfl
theorem kind_int32 (w : World) : (callFunc 218 #[.pointer (some ⟨0, 21, none⟩)]).run Tryr.prog w = .ok (.value (.int .u64 5)) w := by kernel_rfl
theorem kind_int64 (w : World) : (callFunc 218 #[.pointer (some ⟨0, 2, none⟩)]).run Tryr.prog w = .ok (.value (.int .u64 6)) w := by kernel_rfl
theorem kind_uint (w : World) : (callFunc 218 #[.pointer (some ⟨0, 30, none⟩)]).run Tryr.prog w = .ok (.value (.int .u64 7)) w := by kernel_rfl
theorem kind_uint8 (w : World) : (callFunc 218 #[.pointer (some ⟨0, 5, none⟩)]).run Tryr.prog w = .ok (.value (.int .u64 8)) w := by kernel_rfl
theorem kind_uint16 (w : World) : (callFunc 218 #[.pointer (some ⟨0, 31, none⟩)]).run Tryr.prog w = .ok (.value (.int .u64 9)) w := by kernel_rfl
theorem kind_uint32 (w : World) : (callFunc 218 #[.pointer (some ⟨0, 32, none⟩)]).run Tryr.prog w = .ok (.value (.int .u64 10)) w := by kernel_rfl
theorem kind_uint64 (w : World) : (callFunc 218 #[.pointer (some ⟨0, 33, none⟩)]).run Tryr.prog w = .ok (.value (.int .u64 11)) w := by kernel_rfl
theorem kind_uintptr (w : World) : (callFunc 218 #[.pointer (some ⟨0, 12, none⟩)]).run Tryr.prog w = .ok (.value (.int .u64 12)) w := by kernel_rfl
theorem kind_float32 (w : World) : (callFunc 218 #[.pointer (some ⟨0, 26, none⟩)]).run Tryr.prog w = .ok (.value (.int .u64 13)) w := by kernel_rfl
theorem kind_float64 (w : World) : (callFunc 218 #[.pointer (some ⟨0, 27, none⟩)]).run Tryr.prog w = .ok (.value (.int .u64 14)) w := by kernel_rfl
end Go.Proofs.YtikelicjllfgeaaRefl.nat
