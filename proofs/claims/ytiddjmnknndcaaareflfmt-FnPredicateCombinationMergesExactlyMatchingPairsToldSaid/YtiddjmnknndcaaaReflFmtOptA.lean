/-
What reflect answers for the five types over this cut, by the kernel. No condition.
-/
import Derived.Test.YtiddjmnknndcaaaReflFmtChecked
import Derived.WalkKit
import Derived.ProofKit
import Derived.OpenShut
import Derived.Outline
import Derived.WalkLawsBesides
import Derived.WalkSpells
import Derived.Handy
import Derived.Laws.Externs
import Derived.Laws.CopyRow
namespace Go.Proofs.YtiddjmnknndcaaaReflFmt.opt
open Go Go.Proofs Go.RowKit
set_option maxRecDepth 100000
set_option maxHeartbeats 1000000
/-- reflect.TypeOf: the type's handle, whatever the value -/
theorem typeOf (t : Nat) (v : Value) (w : World) : (callFunc 30 #[.iface t v]).run Tryr.prog w = .ok (.value (.iface 101 (.pointer (some ⟨3, t, none⟩)))) w := by kernel_rfl
theorem same (w : World) (b t t' : Nat) : (sameAddr ⟨b, t, none⟩ ⟨b, t', none⟩).run Tryr.prog w = .ok (t == t') w := by
  by_cases h : t = t'
  · simp [sameAddr, h]
  · have e1 : ((⟨b, t, none⟩ : Addr) == ⟨b, t', none⟩) = false := by
      rw [beq_eq_false_iff_ne]
      intro e
      exact h (by cases e; rfl)
    have e2 : (t == t') = false := beq_eq_false_iff_ne.2 h
    simp [sameAddr, e1, e2]
theorem eql_same (w : World) (t t' : Nat) : (binOp .eql 61 (.iface 101 (.pointer (some ⟨3, t, none⟩))) (.iface 101 (.pointer (some ⟨3, t', none⟩)))).run Tryr.prog w = ((sameAddr ⟨3, t, none⟩ ⟨3, t', none⟩).run Tryr.prog w).andThen fun b w' => .ok (.bool b) w' := by kernel_rfl
/-- two types are the same where their numbers are -/
theorem eql (w : World) (t t' : Nat) : (binOp .eql 61 (.iface 101 (.pointer (some ⟨3, t, none⟩))) (.iface 101 (.pointer (some ⟨3, t', none⟩)))).run Tryr.prog w = .ok (.bool (t == t')) w := by
  rw [eql_same, same]; rfl
theorem kind_bool (w : World) : (callFunc 169 #[.pointer (some ⟨3, 4, none⟩)]).run Tryr.prog w = .ok (.value (.int .u64 1)) w := by kernel_rfl
theorem kind_int (w : World) : (callFunc 169 #[.pointer (some ⟨3, 3, none⟩)]).run Tryr.prog w = .ok (.value (.int .u64 2)) w := by kernel_rfl
theorem kind_float64 (w : World) : (callFunc 169 #[.pointer (some ⟨3, 27, none⟩)]).run Tryr.prog w = .ok (.value (.int .u64 14)) w := by kernel_rfl
theorem kind_string (w : World) : (callFunc 169 #[.pointer (some ⟨3, 9, none⟩)]).run Tryr.prog w = .ok (.value (.int .u64 24)) w := by kernel_rfl
theorem kind_any (w : World) : (callFunc 169 #[.pointer (some ⟨3, 20, none⟩)]).run Tryr.prog w = .ok (.value (.int .u64 20)) w := by kernel_rfl
theorem elem_any (w : World) : (callFunc 157 #[.pointer (some ⟨3, 161, none⟩)]).run Tryr.prog w = .ok (.value (.iface 101 (.pointer (some ⟨3, 20, none⟩)))) w := by kernel_rfl
theorem numA (w : World) : (callFunc 177 #[.pointer (some ⟨3, 20, none⟩)]).run Tryr.prog w = .ok (.value (.int .i64 0)) w := by kernel_rfl
theorem infoN : (Tryr.prog.info? 66).map (·.size) = some 9 := by kernel_rfl
theorem infoL : (Tryr.prog.info? 59).map (·.size) = some 2 := by kernel_rfl
end Go.Proofs.YtiddjmnknndcaaaReflFmt.opt
