/-
The visit of a pair of predicates over this cut. No condition.
-/
import Derived.Test.YtiddjmnknndcaaaReflFmtPredB
namespace Go.Proofs.YtiddjmnknndcaaaReflFmt.opt
open Go Go.Proofs Go.RowKit
set_option maxRecDepth 100000
set_option maxHeartbeats 8000000
theorem mString (b : Nat) (w : World) : (method (847) 57 (.pointer (some ⟨b, 0, none⟩)) "String").run Tryr.prog w = .ok (86, .pointer (some ⟨b, 0, none⟩)) w := by kernel_rfl
theorem strK (b u : Nat) (x : ByteArray) (w : World) (h : w.heap[b]? = some (.cells (nodeC u #[.string x]) 70 (0, 0))) : Calls Tryr.prog 86 #[(.pointer (some ⟨b, 0, none⟩))] w fun e w' => e = .returned (.string x) ∧ w' = w := by
  have c1 : w.cell? ⟨b, 11, none⟩ = some (.string x) := field (j := 0) h rfl
  go_enter Tryr.func86, Tryr.ntmps86
  go_wp2
  go_ret
  exact ⟨rfl, rfl⟩
theorem typeK (b u ST : Nat) (fs : Array Value) (w : World) (h : w.heap[b]? = some (.cells (nodeC u fs) ST (0, 0))) :
    Calls Tryr.prog 87 #[(.pointer (some ⟨b, 0, none⟩))] w fun e w' => e = .returned (.iface 101 (.pointer (some ⟨3, tyN (ans u), none⟩))) ∧ But (fun _ => False) w w' := by
  refine (typeW b u ST fs w h).mono ?_
  rintro e w' ⟨rfl, hw⟩
  refine ⟨rfl, ?_⟩
  rcases hw with rfl | ⟨o, rfl⟩
  · exact But.refl _ _
  · exact (But.refl _ _).alloc _
theorem tyEq (t1 t2 : Nat) (h1 : t1 ≤ 4) (h2 : t2 ≤ 4) : (tyN (ans t1) == tyN (ans t2)) = (t1 == t2) := by
  obtain rfl | rfl | rfl | rfl | rfl : t1 = 0 ∨ t1 = 1 ∨ t1 = 2 ∨ t1 = 3 ∨ t1 = 4 := by omega
  all_goals obtain rfl | rfl | rfl | rfl | rfl : t2 = 0 ∨ t2 = 1 ∨ t2 = 2 ∨ t2 = 3 ∨ t2 = 4 := by omega
  all_goals rfl
theorem nmNe (i j : Nat) (hi : i ≤ 4) (hj : j ≤ 4) (h : i ≠ j) : ((nmS j).toList == (nmS i).toList) = false := by
  rw [beq_eq_false_iff_ne]
  intro e
  have e2 : nmS j = nmS i := toListInj e
  obtain rfl | rfl | rfl | rfl | rfl : i = 0 ∨ i = 1 ∨ i = 2 ∨ i = 3 ∨ i = 4 := by omega
  all_goals obtain rfl | rfl | rfl | rfl | rfl : j = 0 ∨ j = 1 ∨ j = 2 ∨ j = 3 ∨ j = 4 := by omega
  all_goals first | exact h rfl | (simp [nmS] at e2)
theorem leafT (x : Value) (k P j b u a : Nat) (y : Value) (hk : k ≤ 3) (w : World) (hp : w.cell? ⟨P, j, none⟩ = some (.iface 79 (.pointer (some ⟨b, 0, none⟩)))) (hb : w.heap[b]? = some (.cells (nodeC u #[.string (opS k), (.iface 57 (.pointer (some ⟨a, 0, none⟩))), y]) 81 (0, 0))) :
    Calls Tryr.prog 24 #[x, .pointer (some ⟨P, j, none⟩)] w fun e w' => e = .returned (.tuple #[]) ∧ w' = w := by
  have c1 : w.cell? ⟨b, 11, none⟩ = some (.string (opS k)) := field (j := 0) hb rfl
  have c2 : w.cell? ⟨b, 12, none⟩ = some (.iface 57 (.pointer (some ⟨a, 0, none⟩))) := field (j := 1) hb rfl
  have ta1 := asIdentifierNode
  have ta2 := asPredicateNode
  have ta3 := asBuiltinNode
  have ta4 := asBinaryNode
  have ta5 := notU
  have ta6 := onlyP
  go_enter Tryr.func24, Tryr.ntmps24
  go_wp2_with fail
  refine (isBoolT k hk _).mono ?_
  rintro e w1 ⟨rfl, rfl⟩
  go_wp2
  go_returns
  exact ⟨rfl, rfl⟩
theorem leafF (x : Value) (k P j b u a : Nat) (y : Value) (hk : k ≤ 5) (h3 : 3 < k) (w : World) (hp : w.cell? ⟨P, j, none⟩ = some (.iface 79 (.pointer (some ⟨b, 0, none⟩)))) (hb : w.heap[b]? = some (.cells (nodeC u #[.string (opS k), (.iface 57 (.pointer (some ⟨a, 0, none⟩))), y]) 81 (0, 0))) :
    Calls Tryr.prog 24 #[x, .pointer (some ⟨P, j, none⟩)] w fun e w' => e = .returned (.tuple #[]) ∧ w' = w := by
  have c1 : w.cell? ⟨b, 11, none⟩ = some (.string (opS k)) := field (j := 0) hb rfl
  have c2 : w.cell? ⟨b, 12, none⟩ = some (.iface 57 (.pointer (some ⟨a, 0, none⟩))) := field (j := 1) hb rfl
  have ta1 := asIdentifierNode
  have ta2 := asPredicateNode
  have ta3 := asBuiltinNode
  have ta4 := asBinaryNode
  have ta5 := notU
  have ta6 := onlyP
  go_enter Tryr.func24, Tryr.ntmps24
  go_wp2_with fail
  refine (isBoolF k hk h3 _).mono ?_
  rintro e w1 ⟨rfl, rfl⟩
  go_wp2
  go_returns
  exact ⟨rfl, rfl⟩
theorem visit_op (x : Value) (i j k : Nat) (x1 x2 : ByteArray) (t1 t2 rt bn a1 a2 p q l r ps g1 g2 n1 n2 : Nat) (w : World) (hr : w.heap[rt]? = some (.cells #[(.iface 79 (.pointer (some ⟨bn, 0, none⟩)))] 45 (0, 0))) (h : PredAt w (opS k) (nmS i) (nmS j) x1 x2 t1 t2 rt bn a1 a2 p q l r ps g1 g2 n1 n2) (_hi : i ≤ 4) (_hj : j ≤ 4) (hk : k ≤ 5) (h3 : 3 < k) : Calls Tryr.prog 24 #[x, (.pointer (some ⟨rt, 0, none⟩))] w fun e w' => e = .returned (.tuple #[]) ∧ But (fun _ => False) w w' := by
  have c0 : w.cell? ⟨rt, 0, none⟩ = some (.iface 79 (.pointer (some ⟨bn, 0, none⟩))) := cell_of hr rfl
  have c1 : w.cell? ⟨bn, 11, none⟩ = some (.string (opS k)) := field (j := 0) h.bin rfl
  have c2 : w.cell? ⟨bn, 12, none⟩ = some (.iface 72 (.pointer (some ⟨l, 0, none⟩))) := field (j := 1) h.bin rfl
  have c3 : w.cell? ⟨bn, 13, none⟩ = some (.iface 72 (.pointer (some ⟨r, 0, none⟩))) := field (j := 2) h.bin rfl
  have c4 : w.cell? ⟨l, 11, none⟩ = some (.string (nmS i)) := field (j := 0) h.left rfl
  have c5 : w.cell? ⟨l, 12, none⟩ = some (.slice (some ⟨g1, 0, none⟩) 2 2) := field (j := 1) h.left rfl
  have c6 : w.cell? ⟨r, 11, none⟩ = some (.string (nmS j)) := field (j := 0) h.right rfl
  have c7 : w.cell? ⟨r, 12, none⟩ = some (.slice (some ⟨g2, 0, none⟩) 2 2) := field (j := 1) h.right rfl
  have c8 : w.cell? ⟨g1, 0, none⟩ = some (.iface 57 (.pointer (some ⟨a1, 0, none⟩))) := cell_of h.row1 rfl
  have c9 : w.cell? ⟨g1, 1, none⟩ = some (.iface 73 (.pointer (some ⟨n1, 0, none⟩))) := cell_of h.row1 rfl
  have c10 : w.cell? ⟨g2, 0, none⟩ = some (.iface 57 (.pointer (some ⟨a2, 0, none⟩))) := cell_of h.row2 rfl
  have c11 : w.cell? ⟨g2, 1, none⟩ = some (.iface 73 (.pointer (some ⟨n2, 0, none⟩))) := cell_of h.row2 rfl
  have c12 : w.cell? ⟨n1, 11, none⟩ = some (.iface 57 (.pointer (some ⟨p, 0, none⟩))) := field (j := 0) h.pr1 rfl
  have c13 : w.cell? ⟨n2, 11, none⟩ = some (.iface 57 (.pointer (some ⟨q, 0, none⟩))) := field (j := 0) h.pr2 rfl
  have ta1 := asIdentifierNode
  have ta2 := asPredicateNode
  have ta3 := asBuiltinNode
  have ta4 := asBinaryNode
  have ta5 := notU
  have ta6 := onlyP
  go_enter Tryr.func24, Tryr.ntmps24
  go_wp2_with fail
  refine (isBoolF k hk h3 _).mono ?_
  rintro e w1 ⟨rfl, rfl⟩
  go_wp2
  go_returns
  exact ⟨rfl, But.refl _ _⟩
theorem visit_comb (x : Value) (i j k : Nat) (x1 x2 : ByteArray) (t1 t2 rt bn a1 a2 p q l r ps g1 g2 n1 n2 : Nat) (w : World) (hr : w.heap[rt]? = some (.cells #[(.iface 79 (.pointer (some ⟨bn, 0, none⟩)))] 45 (0, 0))) (h : PredAt w (opS k) (nmS i) (nmS j) x1 x2 t1 t2 rt bn a1 a2 p q l r ps g1 g2 n1 n2) (hi : i ≤ 4) (_hj : j ≤ 4) (hk : k ≤ 5) (h3 : k ≤ 3) (hm : cmbK i k = none) : Calls Tryr.prog 24 #[x, (.pointer (some ⟨rt, 0, none⟩))] w fun e w' => e = .returned (.tuple #[]) ∧ But (fun _ => False) w w' := by
  have c0 : w.cell? ⟨rt, 0, none⟩ = some (.iface 79 (.pointer (some ⟨bn, 0, none⟩))) := cell_of hr rfl
  have c1 : w.cell? ⟨bn, 11, none⟩ = some (.string (opS k)) := field (j := 0) h.bin rfl
  have c2 : w.cell? ⟨bn, 12, none⟩ = some (.iface 72 (.pointer (some ⟨l, 0, none⟩))) := field (j := 1) h.bin rfl
  have c3 : w.cell? ⟨bn, 13, none⟩ = some (.iface 72 (.pointer (some ⟨r, 0, none⟩))) := field (j := 2) h.bin rfl
  have c4 : w.cell? ⟨l, 11, none⟩ = some (.string (nmS i)) := field (j := 0) h.left rfl
  have c5 : w.cell? ⟨l, 12, none⟩ = some (.slice (some ⟨g1, 0, none⟩) 2 2) := field (j := 1) h.left rfl
  have c6 : w.cell? ⟨r, 11, none⟩ = some (.string (nmS j)) := field (j := 0) h.right rfl
  have c7 : w.cell? ⟨r, 12, none⟩ = some (.slice (some ⟨g2, 0, none⟩) 2 2) := field (j := 1) h.right rfl
  have c8 : w.cell? ⟨g1, 0, none⟩ = some (.iface 57 (.pointer (some ⟨a1, 0, none⟩))) := cell_of h.row1 rfl
  have c9 : w.cell? ⟨g1, 1, none⟩ = some (.iface 73 (.pointer (some ⟨n1, 0, none⟩))) := cell_of h.row1 rfl
  have c10 : w.cell? ⟨g2, 0, none⟩ = some (.iface 57 (.pointer (some ⟨a2, 0, none⟩))) := cell_of h.row2 rfl
  have c11 : w.cell? ⟨g2, 1, none⟩ = some (.iface 73 (.pointer (some ⟨n2, 0, none⟩))) := cell_of h.row2 rfl
  have c12 : w.cell? ⟨n1, 11, none⟩ = some (.iface 57 (.pointer (some ⟨p, 0, none⟩))) := field (j := 0) h.pr1 rfl
  have c13 : w.cell? ⟨n2, 11, none⟩ = some (.iface 57 (.pointer (some ⟨q, 0, none⟩))) := field (j := 0) h.pr2 rfl
  have ta1 := asIdentifierNode
  have ta2 := asPredicateNode
  have ta3 := asBuiltinNode
  have ta4 := asBinaryNode
  have ta5 := notU
  have ta6 := onlyP
  go_enter Tryr.func24, Tryr.ntmps24
  go_wp2_with fail
  refine (isBoolT k h3 _).mono ?_
  rintro e w1 ⟨rfl, rfl⟩
  go_wp2
  have SC : w1.drew.cell? ⟨l, 11, none⟩ = some (.string (nmS i)) ∧ w1.drew.cell? ⟨bn, 11, none⟩ = some (.string (opS k)) := ⟨field (j := 0) h.left rfl, field (j := 0) h.bin rfl⟩
  go_region_held3 (fun w' => w'.cell? ⟨l, 11, none⟩ = some (.string (nmS i)) ∧ w'.cell? ⟨bn, 11, none⟩ = some (.string (opS k))) (assumption) (first | (go_at_call 32; refine (combOpF i k hi hk hm _).mono ?_; rintro e wN ⟨rfl, rfl⟩))
  have hD : PredAt w1.drew (opS k) (nmS i) (nmS j) x1 x2 t1 t2 rt bn a1 a2 p q l r ps g1 g2 n1 n2 := h.same (But.refl _ _).drew
  clear SC
  have d0 : w1.drew.cell? ⟨rt, 0, none⟩ = some (.iface 79 (.pointer (some ⟨bn, 0, none⟩))) := cell_of hr rfl
  have d1 : w1.drew.cell? ⟨bn, 11, none⟩ = some (.string (opS k)) := field (j := 0) hD.bin rfl
  have d2 : w1.drew.cell? ⟨bn, 12, none⟩ = some (.iface 72 (.pointer (some ⟨l, 0, none⟩))) := field (j := 1) hD.bin rfl
  have d3 : w1.drew.cell? ⟨bn, 13, none⟩ = some (.iface 72 (.pointer (some ⟨r, 0, none⟩))) := field (j := 2) hD.bin rfl
  have d4 : w1.drew.cell? ⟨l, 11, none⟩ = some (.string (nmS i)) := field (j := 0) hD.left rfl
  have d5 : w1.drew.cell? ⟨l, 12, none⟩ = some (.slice (some ⟨g1, 0, none⟩) 2 2) := field (j := 1) hD.left rfl
  have d6 : w1.drew.cell? ⟨r, 11, none⟩ = some (.string (nmS j)) := field (j := 0) hD.right rfl
  have d7 : w1.drew.cell? ⟨r, 12, none⟩ = some (.slice (some ⟨g2, 0, none⟩) 2 2) := field (j := 1) hD.right rfl
  have d8 : w1.drew.cell? ⟨g1, 0, none⟩ = some (.iface 57 (.pointer (some ⟨a1, 0, none⟩))) := cell_of hD.row1 rfl
  have d9 : w1.drew.cell? ⟨g1, 1, none⟩ = some (.iface 73 (.pointer (some ⟨n1, 0, none⟩))) := cell_of hD.row1 rfl
  have d10 : w1.drew.cell? ⟨g2, 0, none⟩ = some (.iface 57 (.pointer (some ⟨a2, 0, none⟩))) := cell_of hD.row2 rfl
  have d11 : w1.drew.cell? ⟨g2, 1, none⟩ = some (.iface 73 (.pointer (some ⟨n2, 0, none⟩))) := cell_of hD.row2 rfl
  have d12 : w1.drew.cell? ⟨n1, 11, none⟩ = some (.iface 57 (.pointer (some ⟨p, 0, none⟩))) := field (j := 0) hD.pr1 rfl
  have d13 : w1.drew.cell? ⟨n2, 11, none⟩ = some (.iface 57 (.pointer (some ⟨q, 0, none⟩))) := field (j := 0) hD.pr2 rfl
  go_wp2
  go_returns
  exact ⟨rfl, (But.refl _ _).drew⟩
theorem visit_name (x : Value) (i j k : Nat) (x1 x2 : ByteArray) (t1 t2 rt bn a1 a2 p q l r ps g1 g2 n1 n2 : Nat) (w : World) (hr : w.heap[rt]? = some (.cells #[(.iface 79 (.pointer (some ⟨bn, 0, none⟩)))] 45 (0, 0))) (h : PredAt w (opS k) (nmS i) (nmS j) x1 x2 t1 t2 rt bn a1 a2 p q l r ps g1 g2 n1 n2) (hi : i ≤ 4) (hj : j ≤ 4) (_hk : k ≤ 5) (m : Nat) (h3 : k ≤ 3) (hm : cmbK i k = some m) (hn : i ≠ j) : Calls Tryr.prog 24 #[x, (.pointer (some ⟨rt, 0, none⟩))] w fun e w' => e = .returned (.tuple #[]) ∧ But (fun _ => False) w w' := by
  have hne := nmNe i j hi hj hn
  have c0 : w.cell? ⟨rt, 0, none⟩ = some (.iface 79 (.pointer (some ⟨bn, 0, none⟩))) := cell_of hr rfl
  have c1 : w.cell? ⟨bn, 11, none⟩ = some (.string (opS k)) := field (j := 0) h.bin rfl
  have c2 : w.cell? ⟨bn, 12, none⟩ = some (.iface 72 (.pointer (some ⟨l, 0, none⟩))) := field (j := 1) h.bin rfl
  have c3 : w.cell? ⟨bn, 13, none⟩ = some (.iface 72 (.pointer (some ⟨r, 0, none⟩))) := field (j := 2) h.bin rfl
  have c4 : w.cell? ⟨l, 11, none⟩ = some (.string (nmS i)) := field (j := 0) h.left rfl
  have c5 : w.cell? ⟨l, 12, none⟩ = some (.slice (some ⟨g1, 0, none⟩) 2 2) := field (j := 1) h.left rfl
  have c6 : w.cell? ⟨r, 11, none⟩ = some (.string (nmS j)) := field (j := 0) h.right rfl
  have c7 : w.cell? ⟨r, 12, none⟩ = some (.slice (some ⟨g2, 0, none⟩) 2 2) := field (j := 1) h.right rfl
  have c8 : w.cell? ⟨g1, 0, none⟩ = some (.iface 57 (.pointer (some ⟨a1, 0, none⟩))) := cell_of h.row1 rfl
  have c9 : w.cell? ⟨g1, 1, none⟩ = some (.iface 73 (.pointer (some ⟨n1, 0, none⟩))) := cell_of h.row1 rfl
  have c10 : w.cell? ⟨g2, 0, none⟩ = some (.iface 57 (.pointer (some ⟨a2, 0, none⟩))) := cell_of h.row2 rfl
  have c11 : w.cell? ⟨g2, 1, none⟩ = some (.iface 73 (.pointer (some ⟨n2, 0, none⟩))) := cell_of h.row2 rfl
  have c12 : w.cell? ⟨n1, 11, none⟩ = some (.iface 57 (.pointer (some ⟨p, 0, none⟩))) := field (j := 0) h.pr1 rfl
  have c13 : w.cell? ⟨n2, 11, none⟩ = some (.iface 57 (.pointer (some ⟨q, 0, none⟩))) := field (j := 0) h.pr2 rfl
  have ta1 := asIdentifierNode
  have ta2 := asPredicateNode
  have ta3 := asBuiltinNode
  have ta4 := asBinaryNode
  have ta5 := notU
  have ta6 := onlyP
  go_enter Tryr.func24, Tryr.ntmps24
  go_wp2_with fail
  refine (isBoolT k h3 _).mono ?_
  rintro e w1 ⟨rfl, rfl⟩
  go_wp2
  have SC : w1.drew.cell? ⟨l, 11, none⟩ = some (.string (nmS i)) ∧ w1.drew.cell? ⟨bn, 11, none⟩ = some (.string (opS k)) := ⟨field (j := 0) h.left rfl, field (j := 0) h.bin rfl⟩
  go_region_held3 (fun w' => w'.cell? ⟨l, 11, none⟩ = some (.string (nmS i)) ∧ w'.cell? ⟨bn, 11, none⟩ = some (.string (opS k))) (assumption) (first | (go_at_call 32; refine (combOpT i k m hm _).mono ?_; rintro e wN ⟨rfl, rfl⟩))
  have hD : PredAt w1.drew (opS k) (nmS i) (nmS j) x1 x2 t1 t2 rt bn a1 a2 p q l r ps g1 g2 n1 n2 := h.same (But.refl _ _).drew
  clear SC
  have d0 : w1.drew.cell? ⟨rt, 0, none⟩ = some (.iface 79 (.pointer (some ⟨bn, 0, none⟩))) := cell_of hr rfl
  have d1 : w1.drew.cell? ⟨bn, 11, none⟩ = some (.string (opS k)) := field (j := 0) hD.bin rfl
  have d2 : w1.drew.cell? ⟨bn, 12, none⟩ = some (.iface 72 (.pointer (some ⟨l, 0, none⟩))) := field (j := 1) hD.bin rfl
  have d3 : w1.drew.cell? ⟨bn, 13, none⟩ = some (.iface 72 (.pointer (some ⟨r, 0, none⟩))) := field (j := 2) hD.bin rfl
  have d4 : w1.drew.cell? ⟨l, 11, none⟩ = some (.string (nmS i)) := field (j := 0) hD.left rfl
  have d5 : w1.drew.cell? ⟨l, 12, none⟩ = some (.slice (some ⟨g1, 0, none⟩) 2 2) := field (j := 1) hD.left rfl
  have d6 : w1.drew.cell? ⟨r, 11, none⟩ = some (.string (nmS j)) := field (j := 0) hD.right rfl
  have d7 : w1.drew.cell? ⟨r, 12, none⟩ = some (.slice (some ⟨g2, 0, none⟩) 2 2) := field (j := 1) hD.right rfl
  have d8 : w1.drew.cell? ⟨g1, 0, none⟩ = some (.iface 57 (.pointer (some ⟨a1, 0, none⟩))) := cell_of hD.row1 rfl
  have d9 : w1.drew.cell? ⟨g1, 1, none⟩ = some (.iface 73 (.pointer (some ⟨n1, 0, none⟩))) := cell_of hD.row1 rfl
  have d10 : w1.drew.cell? ⟨g2, 0, none⟩ = some (.iface 57 (.pointer (some ⟨a2, 0, none⟩))) := cell_of hD.row2 rfl
  have d11 : w1.drew.cell? ⟨g2, 1, none⟩ = some (.iface 73 (.pointer (some ⟨n2, 0, none⟩))) := cell_of hD.row2 rfl
  have d12 : w1.drew.cell? ⟨n1, 11, none⟩ = some (.iface 57 (.pointer (some ⟨p, 0, none⟩))) := field (j := 0) hD.pr1 rfl
  have d13 : w1.drew.cell? ⟨n2, 11, none⟩ = some (.iface 57 (.pointer (some ⟨q, 0, none⟩))) := field (j := 0) hD.pr2 rfl
  go_wp2
  have SN : w1.drew.drew.cell? ⟨bn, 13, none⟩ = some (.iface 72 (.pointer (some ⟨r, 0, none⟩))) ∧ w1.drew.drew.cell? ⟨r, 11, none⟩ = some (.string (nmS j)) ∧ w1.drew.drew.cell? ⟨l, 11, none⟩ = some (.string (nmS i)) := ⟨field (j := 2) h.bin rfl, field (j := 0) h.right rfl, field (j := 0) h.left rfl⟩
  go_region_held3 (fun w' => w'.cell? ⟨bn, 13, none⟩ = some (.iface 72 (.pointer (some ⟨r, 0, none⟩))) ∧ w'.cell? ⟨r, 11, none⟩ = some (.string (nmS j)) ∧ w'.cell? ⟨l, 11, none⟩ = some (.string (nmS i))) (assumption) (fail)
  clear SN
  go_wp2
  go_returns
  exact ⟨rfl, (But.refl _ _).drew.drew⟩
theorem visit_type (x : Value) (i j k : Nat) (x1 x2 : ByteArray) (t1 t2 rt bn a1 a2 p q l r ps g1 g2 n1 n2 : Nat) (w : World) (hr : w.heap[rt]? = some (.cells #[(.iface 79 (.pointer (some ⟨bn, 0, none⟩)))] 45 (0, 0))) (h : PredAt w (opS k) (nmS i) (nmS j) x1 x2 t1 t2 rt bn a1 a2 p q l r ps g1 g2 n1 n2) (_hi : i ≤ 4) (hj : j ≤ 4) (_hk : k ≤ 5) (m : Nat) (h3 : k ≤ 3) (hm : cmbK i k = some m) (hn : i = j) (ht1 : t1 ≤ 4) (ht2 : t2 ≤ 4) (ht : t1 ≠ t2) : Calls Tryr.prog 24 #[x, (.pointer (some ⟨rt, 0, none⟩))] w fun e w' => e = .returned (.tuple #[]) ∧ But (fun _ => False) w w' := by
  subst hn
  have hte : (tyN (ans t1) == tyN (ans t2)) = false := by rw [tyEq t1 t2 ht1 ht2]; simp [ht]
  have hne : ((nmS i).toList == (nmS i).toList) = true := beq_self_eq_true _
  have c0 : w.cell? ⟨rt, 0, none⟩ = some (.iface 79 (.pointer (some ⟨bn, 0, none⟩))) := cell_of hr rfl
  have c1 : w.cell? ⟨bn, 11, none⟩ = some (.string (opS k)) := field (j := 0) h.bin rfl
  have c2 : w.cell? ⟨bn, 12, none⟩ = some (.iface 72 (.pointer (some ⟨l, 0, none⟩))) := field (j := 1) h.bin rfl
  have c3 : w.cell? ⟨bn, 13, none⟩ = some (.iface 72 (.pointer (some ⟨r, 0, none⟩))) := field (j := 2) h.bin rfl
  have c4 : w.cell? ⟨l, 11, none⟩ = some (.string (nmS i)) := field (j := 0) h.left rfl
  have c5 : w.cell? ⟨l, 12, none⟩ = some (.slice (some ⟨g1, 0, none⟩) 2 2) := field (j := 1) h.left rfl
  have c6 : w.cell? ⟨r, 11, none⟩ = some (.string (nmS i)) := field (j := 0) h.right rfl
  have c7 : w.cell? ⟨r, 12, none⟩ = some (.slice (some ⟨g2, 0, none⟩) 2 2) := field (j := 1) h.right rfl
  have c8 : w.cell? ⟨g1, 0, none⟩ = some (.iface 57 (.pointer (some ⟨a1, 0, none⟩))) := cell_of h.row1 rfl
  have c9 : w.cell? ⟨g1, 1, none⟩ = some (.iface 73 (.pointer (some ⟨n1, 0, none⟩))) := cell_of h.row1 rfl
  have c10 : w.cell? ⟨g2, 0, none⟩ = some (.iface 57 (.pointer (some ⟨a2, 0, none⟩))) := cell_of h.row2 rfl
  have c11 : w.cell? ⟨g2, 1, none⟩ = some (.iface 73 (.pointer (some ⟨n2, 0, none⟩))) := cell_of h.row2 rfl
  have c12 : w.cell? ⟨n1, 11, none⟩ = some (.iface 57 (.pointer (some ⟨p, 0, none⟩))) := field (j := 0) h.pr1 rfl
  have c13 : w.cell? ⟨n2, 11, none⟩ = some (.iface 57 (.pointer (some ⟨q, 0, none⟩))) := field (j := 0) h.pr2 rfl
  have ta1 := asIdentifierNode
  have ta2 := asPredicateNode
  have ta3 := asBuiltinNode
  have ta4 := asBinaryNode
  have ta5 := notU
  have ta6 := onlyP
  have m1 := mType isPD a1
  have m2 := mType isPD a2
  have m3 := mString
  have ge : ∀ w, (Go.binOp .eql 61 (.iface 101 (.pointer (some ⟨3, tyN (ans t1), none⟩))) (.iface 101 (.pointer (some ⟨3, tyN (ans t2), none⟩)))).run Tryr.prog w = .ok (.bool false) w := fun w => by rw [eql, hte]
  go_enter Tryr.func24, Tryr.ntmps24
  go_wp2_with fail
  refine (isBoolT k h3 _).mono ?_
  rintro e w1 ⟨rfl, rfl⟩
  go_wp2
  have SC : w1.drew.cell? ⟨l, 11, none⟩ = some (.string (nmS i)) ∧ w1.drew.cell? ⟨bn, 11, none⟩ = some (.string (opS k)) := ⟨field (j := 0) h.left rfl, field (j := 0) h.bin rfl⟩
  go_region_held3 (fun w' => w'.cell? ⟨l, 11, none⟩ = some (.string (nmS i)) ∧ w'.cell? ⟨bn, 11, none⟩ = some (.string (opS k))) (assumption) (first | (go_at_call 32; refine (combOpT i k m hm _).mono ?_; rintro e wN ⟨rfl, rfl⟩))
  have hD : PredAt w1.drew (opS k) (nmS i) (nmS i) x1 x2 t1 t2 rt bn a1 a2 p q l r ps g1 g2 n1 n2 := h.same (But.refl _ _).drew
  clear SC
  have d0 : w1.drew.cell? ⟨rt, 0, none⟩ = some (.iface 79 (.pointer (some ⟨bn, 0, none⟩))) := cell_of hr rfl
  have d1 : w1.drew.cell? ⟨bn, 11, none⟩ = some (.string (opS k)) := field (j := 0) hD.bin rfl
  have d2 : w1.drew.cell? ⟨bn, 12, none⟩ = some (.iface 72 (.pointer (some ⟨l, 0, none⟩))) := field (j := 1) hD.bin rfl
  have d3 : w1.drew.cell? ⟨bn, 13, none⟩ = some (.iface 72 (.pointer (some ⟨r, 0, none⟩))) := field (j := 2) hD.bin rfl
  have d4 : w1.drew.cell? ⟨l, 11, none⟩ = some (.string (nmS i)) := field (j := 0) hD.left rfl
  have d5 : w1.drew.cell? ⟨l, 12, none⟩ = some (.slice (some ⟨g1, 0, none⟩) 2 2) := field (j := 1) hD.left rfl
  have d6 : w1.drew.cell? ⟨r, 11, none⟩ = some (.string (nmS i)) := field (j := 0) hD.right rfl
  have d7 : w1.drew.cell? ⟨r, 12, none⟩ = some (.slice (some ⟨g2, 0, none⟩) 2 2) := field (j := 1) hD.right rfl
  have d8 : w1.drew.cell? ⟨g1, 0, none⟩ = some (.iface 57 (.pointer (some ⟨a1, 0, none⟩))) := cell_of hD.row1 rfl
  have d9 : w1.drew.cell? ⟨g1, 1, none⟩ = some (.iface 73 (.pointer (some ⟨n1, 0, none⟩))) := cell_of hD.row1 rfl
  have d10 : w1.drew.cell? ⟨g2, 0, none⟩ = some (.iface 57 (.pointer (some ⟨a2, 0, none⟩))) := cell_of hD.row2 rfl
  have d11 : w1.drew.cell? ⟨g2, 1, none⟩ = some (.iface 73 (.pointer (some ⟨n2, 0, none⟩))) := cell_of hD.row2 rfl
  have d12 : w1.drew.cell? ⟨n1, 11, none⟩ = some (.iface 57 (.pointer (some ⟨p, 0, none⟩))) := field (j := 0) hD.pr1 rfl
  have d13 : w1.drew.cell? ⟨n2, 11, none⟩ = some (.iface 57 (.pointer (some ⟨q, 0, none⟩))) := field (j := 0) hD.pr2 rfl
  go_wp2
  have SN : w1.drew.drew.cell? ⟨bn, 13, none⟩ = some (.iface 72 (.pointer (some ⟨r, 0, none⟩))) ∧ w1.drew.drew.cell? ⟨r, 11, none⟩ = some (.string (nmS i)) ∧ w1.drew.drew.cell? ⟨l, 11, none⟩ = some (.string (nmS i)) := ⟨field (j := 2) h.bin rfl, field (j := 0) h.right rfl, field (j := 0) h.left rfl⟩
  go_region_held3 (fun w' => w'.cell? ⟨bn, 13, none⟩ = some (.iface 72 (.pointer (some ⟨r, 0, none⟩))) ∧ w'.cell? ⟨r, 11, none⟩ = some (.string (nmS i)) ∧ w'.cell? ⟨l, 11, none⟩ = some (.string (nmS i))) (assumption) (fail)
  clear SN
  go_wp2
  have hd : PredAt w1.drew.drew.drew (opS k) (nmS i) (nmS i) x1 x2 t1 t2 rt bn a1 a2 p q l r ps g1 g2 n1 n2 := hD.same (But.refl _ _).drew.drew
  have k0 : But (fun _ => False) w1 w1.drew.drew.drew := (But.refl _ _).drew.drew.drew
  have S0 : w1.drew.drew.drew.cell? ⟨l, 12, none⟩ = some (.slice (some ⟨g1, 0, none⟩) 2 2) ∧ w1.drew.drew.drew.cell? ⟨g1, 0, none⟩ = some (.iface 57 (.pointer (some ⟨a1, 0, none⟩))) ∧ w1.drew.drew.drew.cell? ⟨r, 12, none⟩ = some (.slice (some ⟨g2, 0, none⟩) 2 2) ∧ w1.drew.drew.drew.cell? ⟨g2, 0, none⟩ = some (.iface 57 (.pointer (some ⟨a2, 0, none⟩))) := ⟨field (j := 1) hd.left rfl, cell_of hd.row1 rfl, field (j := 1) hd.right rfl, cell_of hd.row2 rfl⟩
  refine wp_region_noPanic ?_
  refine wp_region_held_drew (S := fun w' => w'.cell? ⟨l, 12, none⟩ = some (.slice (some ⟨g1, 0, none⟩) 2 2) ∧ w'.cell? ⟨g1, 0, none⟩ = some (.iface 57 (.pointer (some ⟨a1, 0, none⟩))) ∧ w'.cell? ⟨r, 12, none⟩ = some (.slice (some ⟨g2, 0, none⟩) 2 2) ∧ w'.cell? ⟨g2, 0, none⟩ = some (.iface 57 (.pointer (some ⟨a2, 0, none⟩)))) (by kernel_rfl) S0 (fun hHeld => ?_)
  refine wpAnyH_take (i := 0) (v := ?v0) rfl (by kernel_rfl) (by kernel_rfl) (by kernel_rfl) (fun _ _ _ h => h) (Or.inl ⟨by rfl, ?y0⟩) (by assumption) ?r0
  case y0 =>
    intro w hSw
    try dsimp only at hSw
    go_simp
    try with_reducible rfl
  try simp only [Act.put, List.getElem_toArray, List.getElem_cons_zero, List.setIfInBounds_toArray, List.set_cons_zero, List.set_cons_succ]
  refine wpAnyH_take (i := 1) (v := ?v1) rfl (by kernel_rfl) (by kernel_rfl) (by kernel_rfl) (fun _ _ _ h => h) (Or.inl ⟨by rfl, ?y1⟩) (by assumption) ?r1
  case y1 =>
    intro w hSw
    try dsimp only at hSw
    go_simp
    try with_reducible rfl
  try simp only [Act.put, List.getElem_toArray, List.getElem_cons_succ, List.getElem_cons_zero, List.setIfInBounds_toArray, List.set_cons_zero, List.set_cons_succ]
  refine wpAnyH_take (i := 2) (v := ?v2) rfl (by kernel_rfl) (by kernel_rfl) (by kernel_rfl) (fun _ _ _ h => h) (Or.inl ⟨by rfl, ?y2⟩) (by assumption) ?r2
  case y2 =>
    intro w hSw
    try dsimp only at hSw
    go_simp
    try with_reducible rfl
  try simp only [Act.put, List.getElem_toArray, List.getElem_cons_succ, List.getElem_cons_zero, List.setIfInBounds_toArray, List.set_cons_zero, List.set_cons_succ]
  refine wpAnyH_take (i := 3) (v := ?v3) rfl (by kernel_rfl) (by kernel_rfl) (by kernel_rfl) (fun _ _ _ h => h) (Or.inl ⟨by rfl, ?y3⟩) (by assumption) ?r3
  case y3 =>
    intro w hSw
    try dsimp only at hSw
    go_simp
    try with_reducible rfl
  try simp only [Act.put, List.getElem_toArray, List.getElem_cons_succ, List.getElem_cons_zero, List.setIfInBounds_toArray, List.set_cons_zero, List.set_cons_succ]
  refine wpAnyH_take (i := 4) (v := ?v4) rfl (by kernel_rfl) (by kernel_rfl) (by kernel_rfl) (fun _ _ _ h => h) (Or.inl ⟨by rfl, ?y4⟩) (by assumption) ?r4
  case y4 =>
    intro w hSw
    try dsimp only at hSw
    go_simp
    try with_reducible rfl
  try simp only [Act.put, List.getElem_toArray, List.getElem_cons_succ, List.getElem_cons_zero, List.setIfInBounds_toArray, List.set_cons_zero, List.set_cons_succ]
  refine wpAnyH_take (i := 5) (v := ?v5) rfl (by kernel_rfl) (by kernel_rfl) (by kernel_rfl) (fun _ _ _ h => h) (Or.inl ⟨by rfl, ?y5⟩) (by assumption) ?r5
  case y5 =>
    intro w hSw
    try dsimp only at hSw
    go_simp
    try with_reducible rfl
  try simp only [Act.put, List.getElem_toArray, List.getElem_cons_succ, List.getElem_cons_zero, List.setIfInBounds_toArray, List.set_cons_zero, List.set_cons_succ]
  refine wpAnyH_take (i := 7) (v := ?v7) rfl (by kernel_rfl) (by kernel_rfl) (by kernel_rfl) (fun _ _ _ h => h) (Or.inl ⟨by rfl, ?y7⟩) (by assumption) ?r7
  case y7 =>
    intro w hSw
    try dsimp only at hSw
    go_simp
    try with_reducible rfl
  try simp only [Act.put, List.getElem_toArray, List.getElem_cons_succ, List.getElem_cons_zero, List.setIfInBounds_toArray, List.set_cons_zero, List.set_cons_succ]
  refine wpAnyH_take (i := 8) (v := ?v8) rfl (by kernel_rfl) (by kernel_rfl) (by kernel_rfl) (fun _ _ _ h => h) (Or.inl ⟨by rfl, ?y8⟩) (by assumption) ?r8
  case y8 =>
    intro w hSw
    try dsimp only at hSw
    go_simp
    try with_reducible rfl
  try simp only [Act.put, List.getElem_toArray, List.getElem_cons_succ, List.getElem_cons_zero, List.setIfInBounds_toArray, List.set_cons_zero, List.set_cons_succ]
  refine wpAnyH_take (i := 9) (v := ?v9) rfl (by kernel_rfl) (by kernel_rfl) (by kernel_rfl) (fun _ _ _ h => h) (Or.inl ⟨by rfl, ?y9⟩) (by assumption) ?r9
  case y9 =>
    intro w hSw
    try dsimp only at hSw
    go_simp
    try with_reducible rfl
  try simp only [Act.put, List.getElem_toArray, List.getElem_cons_succ, List.getElem_cons_zero, List.setIfInBounds_toArray, List.set_cons_zero, List.set_cons_succ]
  refine wpAnyH_take (i := 10) (v := ?v10) rfl (by kernel_rfl) (by kernel_rfl) (by kernel_rfl) (fun _ _ _ h => h) (Or.inl ⟨by rfl, ?y10⟩) (by assumption) ?r10
  case y10 =>
    intro w hSw
    try dsimp only at hSw
    go_simp
    try with_reducible rfl
  try simp only [Act.put, List.getElem_toArray, List.getElem_cons_succ, List.getElem_cons_zero, List.setIfInBounds_toArray, List.set_cons_zero, List.set_cons_succ]
  refine wpAnyH_take (i := 11) (v := ?v11) rfl (by kernel_rfl) (by kernel_rfl) (by kernel_rfl) (fun _ _ _ h => h) (Or.inl ⟨by rfl, ?y11⟩) (by assumption) ?r11
  case y11 =>
    intro w hSw
    try dsimp only at hSw
    go_simp
    try with_reducible rfl
  try simp only [Act.put, List.getElem_toArray, List.getElem_cons_succ, List.getElem_cons_zero, List.setIfInBounds_toArray, List.set_cons_zero, List.set_cons_succ]
  refine wpAnyH_take (i := 12) (v := ?v12) rfl (by kernel_rfl) (by kernel_rfl) (by kernel_rfl) (fun _ _ _ h => h) (Or.inl ⟨by rfl, ?y12⟩) (by assumption) ?r12
  case y12 =>
    intro w hSw
    try dsimp only at hSw
    go_simp
    try with_reducible rfl
  try simp only [Act.put, List.getElem_toArray, List.getElem_cons_succ, List.getElem_cons_zero, List.setIfInBounds_toArray, List.set_cons_zero, List.set_cons_succ]
  refine wpAnyH_ready (rs := [6]) (by kernel_rfl) (by simp) ?_
  refine AllReadyH.cons rfl (fun K hK => ?_) AllReadyH.nil
  go_simp
  refine (typeK a1 t1 70 _ _ (PredAt.id1 (by assumption))).mono ?_
  rintro e wN ⟨rfl, qN⟩
  have hN := PredAt.same qN (by assumption)
  have kN : But (fun _ => False) w1 wN := But.trans (by assumption) qN
  have SN : wN.cell? ⟨l, 12, none⟩ = some (.slice (some ⟨g1, 0, none⟩) 2 2) ∧ wN.cell? ⟨g1, 0, none⟩ = some (.iface 57 (.pointer (some ⟨a1, 0, none⟩))) ∧ wN.cell? ⟨r, 12, none⟩ = some (.slice (some ⟨g2, 0, none⟩) 2 2) ∧ wN.cell? ⟨g2, 0, none⟩ = some (.iface 57 (.pointer (some ⟨a2, 0, none⟩))) := ⟨field (j := 1) hN.left rfl, cell_of hN.row1 rfl, field (j := 1) hN.right rfl, cell_of hN.row2 rfl⟩
  go_wp2_with fail
  refine hK.out _ _ SN (fun hHeld => ?_)
  clear hK K
  try simp only [Act.put, List.getElem_toArray, List.getElem_cons_succ, List.getElem_cons_zero, List.setIfInBounds_toArray, List.set_cons_zero, List.set_cons_succ]
  refine wpAnyH_ready (rs := [13]) (by kernel_rfl) (by simp) ?_
  refine AllReadyH.cons rfl (fun K hK => ?_) AllReadyH.nil
  go_simp
  refine (typeK a2 t2 70 _ _ (PredAt.id2 (by assumption))).mono ?_
  rintro e wN ⟨rfl, qN⟩
  have hN := PredAt.same qN (by assumption)
  have kN : But (fun _ => False) w1 wN := But.trans (by assumption) qN
  have SN : wN.cell? ⟨l, 12, none⟩ = some (.slice (some ⟨g1, 0, none⟩) 2 2) ∧ wN.cell? ⟨g1, 0, none⟩ = some (.iface 57 (.pointer (some ⟨a1, 0, none⟩))) ∧ wN.cell? ⟨r, 12, none⟩ = some (.slice (some ⟨g2, 0, none⟩) 2 2) ∧ wN.cell? ⟨g2, 0, none⟩ = some (.iface 57 (.pointer (some ⟨a2, 0, none⟩))) := ⟨field (j := 1) hN.left rfl, cell_of hN.row1 rfl, field (j := 1) hN.right rfl, cell_of hN.row2 rfl⟩
  go_wp2_with fail
  refine hK.out _ _ SN (fun hHeld => ?_)
  clear hK K
  try simp only [Act.put, List.getElem_toArray, List.getElem_cons_succ, List.getElem_cons_zero, List.setIfInBounds_toArray, List.set_cons_zero, List.set_cons_succ]
  refine wpAnyH_take (i := 14) (v := ?v14) rfl (by kernel_rfl) (by kernel_rfl) (by kernel_rfl) (fun _ _ _ h => h) (Or.inl ⟨by rfl, ?y14⟩) (by assumption) ?r14
  case y14 =>
    intro w hSw
    try dsimp only at hSw
    go_simp
    try with_reducible rfl
  try simp only [Act.put, List.getElem_toArray, List.getElem_cons_succ, List.getElem_cons_zero, List.setIfInBounds_toArray, List.set_cons_zero, List.set_cons_succ]
  refine wpAnyH_take (i := 15) (v := ?v15) rfl (by kernel_rfl) (by kernel_rfl) (by kernel_rfl) (fun _ _ _ h => h) (Or.inl ⟨by rfl, ?y15⟩) (by assumption) ?r15
  case y15 =>
    intro w hSw
    try dsimp only at hSw
    go_simp
    try with_reducible rfl
  try simp only [Act.put, List.getElem_toArray, List.getElem_cons_succ, List.getElem_cons_zero, List.setIfInBounds_toArray, List.set_cons_zero, List.set_cons_succ]
  refine wpAnyH_take (i := 16) (v := undef) rfl (by kernel_rfl) (by kernel_rfl) (by kernel_rfl) (fun _ _ _ h => h) (Or.inr ⟨by rfl, rfl⟩) (by assumption) ?_
  try simp only [Act.put, List.getElem_toArray, List.getElem_cons_succ, List.getElem_cons_zero, List.setIfInBounds_toArray, List.set_cons_zero, List.set_cons_succ]
  refine wpAnyH_take (i := 17) (v := undef) rfl (by kernel_rfl) (by kernel_rfl) (by kernel_rfl) (fun _ _ _ h => h) (Or.inr ⟨by rfl, rfl⟩) (by assumption) ?_
  try simp only [Act.put, List.getElem_toArray, List.getElem_cons_succ, List.getElem_cons_zero, List.setIfInBounds_toArray, List.set_cons_zero, List.set_cons_succ]
  refine wpAnyH_take (i := 18) (v := undef) rfl (by kernel_rfl) (by kernel_rfl) (by kernel_rfl) (fun _ _ _ h => h) (Or.inr ⟨by rfl, rfl⟩) (by assumption) ?_
  try simp only [Act.put, List.getElem_toArray, List.getElem_cons_succ, List.getElem_cons_zero, List.setIfInBounds_toArray, List.set_cons_zero, List.set_cons_succ]
  refine wpAnyH_take (i := 19) (v := undef) rfl (by kernel_rfl) (by kernel_rfl) (by kernel_rfl) (fun _ _ _ h => h) (Or.inr ⟨by rfl, rfl⟩) (by assumption) ?_
  try simp only [Act.put, List.getElem_toArray, List.getElem_cons_succ, List.getElem_cons_zero, List.setIfInBounds_toArray, List.set_cons_zero, List.set_cons_succ]
  refine wpAnyH_take (i := 20) (v := undef) rfl (by kernel_rfl) (by kernel_rfl) (by kernel_rfl) (fun _ _ _ h => h) (Or.inr ⟨by rfl, rfl⟩) (by assumption) ?_
  try simp only [Act.put, List.getElem_toArray, List.getElem_cons_succ, List.getElem_cons_zero, List.setIfInBounds_toArray, List.set_cons_zero, List.set_cons_succ]
  refine wpAnyH_take (i := 21) (v := undef) rfl (by kernel_rfl) (by kernel_rfl) (by kernel_rfl) (fun _ _ _ h => h) (Or.inr ⟨by rfl, rfl⟩) (by assumption) ?_
  try simp only [Act.put, List.getElem_toArray, List.getElem_cons_succ, List.getElem_cons_zero, List.setIfInBounds_toArray, List.set_cons_zero, List.set_cons_succ]
  refine wpAnyH_take (i := 22) (v := undef) rfl (by kernel_rfl) (by kernel_rfl) (by kernel_rfl) (fun _ _ _ h => h) (Or.inr ⟨by rfl, rfl⟩) (by assumption) ?_
  try simp only [Act.put, List.getElem_toArray, List.getElem_cons_succ, List.getElem_cons_zero, List.setIfInBounds_toArray, List.set_cons_zero, List.set_cons_succ]
  refine wpAnyH_take (i := 23) (v := undef) rfl (by kernel_rfl) (by kernel_rfl) (by kernel_rfl) (fun _ _ _ h => h) (Or.inr ⟨by rfl, rfl⟩) (by assumption) ?_
  try simp only [Act.put, List.getElem_toArray, List.getElem_cons_succ, List.getElem_cons_zero, List.setIfInBounds_toArray, List.set_cons_zero, List.set_cons_succ]
  refine wpAnyH_take (i := 24) (v := undef) rfl (by kernel_rfl) (by kernel_rfl) (by kernel_rfl) (fun _ _ _ h => h) (Or.inr ⟨by rfl, rfl⟩) (by assumption) ?_
  try simp only [Act.put, List.getElem_toArray, List.getElem_cons_succ, List.getElem_cons_zero, List.setIfInBounds_toArray, List.set_cons_zero, List.set_cons_succ]
  refine wpAnyH_take (i := 25) (v := undef) rfl (by kernel_rfl) (by kernel_rfl) (by kernel_rfl) (fun _ _ _ h => h) (Or.inr ⟨by rfl, rfl⟩) (by assumption) ?_
  try simp only [Act.put, List.getElem_toArray, List.getElem_cons_succ, List.getElem_cons_zero, List.setIfInBounds_toArray, List.set_cons_zero, List.set_cons_succ]
  refine wpAnyH_take (i := 26) (v := undef) rfl (by kernel_rfl) (by kernel_rfl) (by kernel_rfl) (fun _ _ _ h => h) (Or.inr ⟨by rfl, rfl⟩) (by assumption) ?_
  try simp only [Act.put, List.getElem_toArray, List.getElem_cons_succ, List.getElem_cons_zero, List.setIfInBounds_toArray, List.set_cons_zero, List.set_cons_succ]
  refine wpAnyH_take (i := 27) (v := undef) rfl (by kernel_rfl) (by kernel_rfl) (by kernel_rfl) (fun _ _ _ h => h) (Or.inr ⟨by rfl, rfl⟩) (by assumption) ?_
  try simp only [Act.put, List.getElem_toArray, List.getElem_cons_succ, List.getElem_cons_zero, List.setIfInBounds_toArray, List.set_cons_zero, List.set_cons_succ]
  refine wpAnyH_take (i := 28) (v := undef) rfl (by kernel_rfl) (by kernel_rfl) (by kernel_rfl) (fun _ _ _ h => h) (Or.inr ⟨by rfl, rfl⟩) (by assumption) ?_
  try simp only [Act.put, List.getElem_toArray, List.getElem_cons_succ, List.getElem_cons_zero, List.setIfInBounds_toArray, List.set_cons_zero, List.set_cons_succ]
  refine wpAnyH_take (i := 29) (v := undef) rfl (by kernel_rfl) (by kernel_rfl) (by kernel_rfl) (fun _ _ _ h => h) (Or.inr ⟨by rfl, rfl⟩) (by assumption) ?_
  try simp only [Act.put, List.getElem_toArray, List.getElem_cons_succ, List.getElem_cons_zero, List.setIfInBounds_toArray, List.set_cons_zero, List.set_cons_succ]
  refine wpAnyH_take (i := 30) (v := undef) rfl (by kernel_rfl) (by kernel_rfl) (by kernel_rfl) (fun _ _ _ h => h) (Or.inr ⟨by rfl, rfl⟩) (by assumption) ?_
  try simp only [Act.put, List.getElem_toArray, List.getElem_cons_succ, List.getElem_cons_zero, List.setIfInBounds_toArray, List.set_cons_zero, List.set_cons_succ]
  refine wpAnyH_take (i := 31) (v := ?v31) rfl (by kernel_rfl) (by kernel_rfl) (by kernel_rfl) (fun _ _ _ h => h) (Or.inl ⟨by rfl, ?y31⟩) (by assumption) ?r31
  case y31 =>
    intro w hSw
    try dsimp only at hSw
    go_simp
    try with_reducible rfl
  try simp only [Act.put, List.getElem_toArray, List.getElem_cons_succ, List.getElem_cons_zero, List.setIfInBounds_toArray, List.set_cons_zero, List.set_cons_succ]
  refine wpAnyH_done (by kernel_rfl) ?_ _
  refine NoPanic.normal ?_
  go_wp2
  go_returns
  exact ⟨rfl, by assumption⟩
theorem visit_text (x : Value) (i j k : Nat) (x1 x2 : ByteArray) (t1 t2 rt bn a1 a2 p q l r ps g1 g2 n1 n2 : Nat) (w : World) (hr : w.heap[rt]? = some (.cells #[(.iface 79 (.pointer (some ⟨bn, 0, none⟩)))] 45 (0, 0))) (h : PredAt w (opS k) (nmS i) (nmS j) x1 x2 t1 t2 rt bn a1 a2 p q l r ps g1 g2 n1 n2) (_hi : i ≤ 4) (hj : j ≤ 4) (_hk : k ≤ 5) (m : Nat) (h3 : k ≤ 3) (hm : cmbK i k = some m) (hn : i = j) (ht1 : t1 ≤ 4) (ht2 : t2 ≤ 4) (ht : t1 = t2) (hx : x1 ≠ x2) : Calls Tryr.prog 24 #[x, (.pointer (some ⟨rt, 0, none⟩))] w fun e w' => e = .returned (.tuple #[]) ∧ But (fun _ => False) w w' := by
  subst hn
  have hte : (tyN (ans t1) == tyN (ans t2)) = true := by rw [tyEq t1 t2 ht1 ht2]; simp [ht]
  have hxe : (x1.toList == x2.toList) = false := by rw [beq_eq_false_iff_ne]; exact fun e => hx (toListInj e)
  have hne : ((nmS i).toList == (nmS i).toList) = true := beq_self_eq_true _
  clear ht hx
  have c0 : w.cell? ⟨rt, 0, none⟩ = some (.iface 79 (.pointer (some ⟨bn, 0, none⟩))) := cell_of hr rfl
  have c1 : w.cell? ⟨bn, 11, none⟩ = some (.string (opS k)) := field (j := 0) h.bin rfl
  have c2 : w.cell? ⟨bn, 12, none⟩ = some (.iface 72 (.pointer (some ⟨l, 0, none⟩))) := field (j := 1) h.bin rfl
  have c3 : w.cell? ⟨bn, 13, none⟩ = some (.iface 72 (.pointer (some ⟨r, 0, none⟩))) := field (j := 2) h.bin rfl
  have c4 : w.cell? ⟨l, 11, none⟩ = some (.string (nmS i)) := field (j := 0) h.left rfl
  have c5 : w.cell? ⟨l, 12, none⟩ = some (.slice (some ⟨g1, 0, none⟩) 2 2) := field (j := 1) h.left rfl
  have c6 : w.cell? ⟨r, 11, none⟩ = some (.string (nmS i)) := field (j := 0) h.right rfl
  have c7 : w.cell? ⟨r, 12, none⟩ = some (.slice (some ⟨g2, 0, none⟩) 2 2) := field (j := 1) h.right rfl
  have c8 : w.cell? ⟨g1, 0, none⟩ = some (.iface 57 (.pointer (some ⟨a1, 0, none⟩))) := cell_of h.row1 rfl
  have c9 : w.cell? ⟨g1, 1, none⟩ = some (.iface 73 (.pointer (some ⟨n1, 0, none⟩))) := cell_of h.row1 rfl
  have c10 : w.cell? ⟨g2, 0, none⟩ = some (.iface 57 (.pointer (some ⟨a2, 0, none⟩))) := cell_of h.row2 rfl
  have c11 : w.cell? ⟨g2, 1, none⟩ = some (.iface 73 (.pointer (some ⟨n2, 0, none⟩))) := cell_of h.row2 rfl
  have c12 : w.cell? ⟨n1, 11, none⟩ = some (.iface 57 (.pointer (some ⟨p, 0, none⟩))) := field (j := 0) h.pr1 rfl
  have c13 : w.cell? ⟨n2, 11, none⟩ = some (.iface 57 (.pointer (some ⟨q, 0, none⟩))) := field (j := 0) h.pr2 rfl
  have ta1 := asIdentifierNode
  have ta2 := asPredicateNode
  have ta3 := asBuiltinNode
  have ta4 := asBinaryNode
  have ta5 := notU
  have ta6 := onlyP
  have m1 := mType isPD a1
  have m2 := mType isPD a2
  have m3 := mString
  have ge : ∀ w, (Go.binOp .eql 61 (.iface 101 (.pointer (some ⟨3, tyN (ans t1), none⟩))) (.iface 101 (.pointer (some ⟨3, tyN (ans t2), none⟩)))).run Tryr.prog w = .ok (.bool true) w := fun w => by rw [eql, hte]
  go_enter Tryr.func24, Tryr.ntmps24
  go_wp2_with fail
  refine (isBoolT k h3 _).mono ?_
  rintro e w1 ⟨rfl, rfl⟩
  go_wp2
  have SC : w1.drew.cell? ⟨l, 11, none⟩ = some (.string (nmS i)) ∧ w1.drew.cell? ⟨bn, 11, none⟩ = some (.string (opS k)) := ⟨field (j := 0) h.left rfl, field (j := 0) h.bin rfl⟩
  go_region_held3 (fun w' => w'.cell? ⟨l, 11, none⟩ = some (.string (nmS i)) ∧ w'.cell? ⟨bn, 11, none⟩ = some (.string (opS k))) (assumption) (first | (go_at_call 32; refine (combOpT i k m hm _).mono ?_; rintro e wN ⟨rfl, rfl⟩))
  have hD : PredAt w1.drew (opS k) (nmS i) (nmS i) x1 x2 t1 t2 rt bn a1 a2 p q l r ps g1 g2 n1 n2 := h.same (But.refl _ _).drew
  clear SC
  have d0 : w1.drew.cell? ⟨rt, 0, none⟩ = some (.iface 79 (.pointer (some ⟨bn, 0, none⟩))) := cell_of hr rfl
  have d1 : w1.drew.cell? ⟨bn, 11, none⟩ = some (.string (opS k)) := field (j := 0) hD.bin rfl
  have d2 : w1.drew.cell? ⟨bn, 12, none⟩ = some (.iface 72 (.pointer (some ⟨l, 0, none⟩))) := field (j := 1) hD.bin rfl
  have d3 : w1.drew.cell? ⟨bn, 13, none⟩ = some (.iface 72 (.pointer (some ⟨r, 0, none⟩))) := field (j := 2) hD.bin rfl
  have d4 : w1.drew.cell? ⟨l, 11, none⟩ = some (.string (nmS i)) := field (j := 0) hD.left rfl
  have d5 : w1.drew.cell? ⟨l, 12, none⟩ = some (.slice (some ⟨g1, 0, none⟩) 2 2) := field (j := 1) hD.left rfl
  have d6 : w1.drew.cell? ⟨r, 11, none⟩ = some (.string (nmS i)) := field (j := 0) hD.right rfl
  have d7 : w1.drew.cell? ⟨r, 12, none⟩ = some (.slice (some ⟨g2, 0, none⟩) 2 2) := field (j := 1) hD.right rfl
  have d8 : w1.drew.cell? ⟨g1, 0, none⟩ = some (.iface 57 (.pointer (some ⟨a1, 0, none⟩))) := cell_of hD.row1 rfl
  have d9 : w1.drew.cell? ⟨g1, 1, none⟩ = some (.iface 73 (.pointer (some ⟨n1, 0, none⟩))) := cell_of hD.row1 rfl
  have d10 : w1.drew.cell? ⟨g2, 0, none⟩ = some (.iface 57 (.pointer (some ⟨a2, 0, none⟩))) := cell_of hD.row2 rfl
  have d11 : w1.drew.cell? ⟨g2, 1, none⟩ = some (.iface 73 (.pointer (some ⟨n2, 0, none⟩))) := cell_of hD.row2 rfl
  have d12 : w1.drew.cell? ⟨n1, 11, none⟩ = some (.iface 57 (.pointer (some ⟨p, 0, none⟩))) := field (j := 0) hD.pr1 rfl
  have d13 : w1.drew.cell? ⟨n2, 11, none⟩ = some (.iface 57 (.pointer (some ⟨q, 0, none⟩))) := field (j := 0) hD.pr2 rfl
  go_wp2
  have SN : w1.drew.drew.cell? ⟨bn, 13, none⟩ = some (.iface 72 (.pointer (some ⟨r, 0, none⟩))) ∧ w1.drew.drew.cell? ⟨r, 11, none⟩ = some (.string (nmS i)) ∧ w1.drew.drew.cell? ⟨l, 11, none⟩ = some (.string (nmS i)) := ⟨field (j := 2) h.bin rfl, field (j := 0) h.right rfl, field (j := 0) h.left rfl⟩
  go_region_held3 (fun w' => w'.cell? ⟨bn, 13, none⟩ = some (.iface 72 (.pointer (some ⟨r, 0, none⟩))) ∧ w'.cell? ⟨r, 11, none⟩ = some (.string (nmS i)) ∧ w'.cell? ⟨l, 11, none⟩ = some (.string (nmS i))) (assumption) (fail)
  clear SN
  go_wp2
  have hd : PredAt w1.drew.drew.drew (opS k) (nmS i) (nmS i) x1 x2 t1 t2 rt bn a1 a2 p q l r ps g1 g2 n1 n2 := hD.same (But.refl _ _).drew.drew
  have k0 : But (fun _ => False) w1 w1.drew.drew.drew := (But.refl _ _).drew.drew.drew
  have S0 : w1.drew.drew.drew.cell? ⟨l, 12, none⟩ = some (.slice (some ⟨g1, 0, none⟩) 2 2) ∧ w1.drew.drew.drew.cell? ⟨g1, 0, none⟩ = some (.iface 57 (.pointer (some ⟨a1, 0, none⟩))) ∧ w1.drew.drew.drew.cell? ⟨r, 12, none⟩ = some (.slice (some ⟨g2, 0, none⟩) 2 2) ∧ w1.drew.drew.drew.cell? ⟨g2, 0, none⟩ = some (.iface 57 (.pointer (some ⟨a2, 0, none⟩))) := ⟨field (j := 1) hd.left rfl, cell_of hd.row1 rfl, field (j := 1) hd.right rfl, cell_of hd.row2 rfl⟩
  go_region_held3 (fun w' => w'.cell? ⟨l, 12, none⟩ = some (.slice (some ⟨g1, 0, none⟩) 2 2) ∧ w'.cell? ⟨g1, 0, none⟩ = some (.iface 57 (.pointer (some ⟨a1, 0, none⟩))) ∧ w'.cell? ⟨r, 12, none⟩ = some (.slice (some ⟨g2, 0, none⟩) 2 2) ∧ w'.cell? ⟨g2, 0, none⟩ = some (.iface 57 (.pointer (some ⟨a2, 0, none⟩)))) (assumption) (first
    | (go_at_call 87; with_reducible refine (typeK a1 t1 70 _ _ (PredAt.id1 (by assumption))).mono ?_; rintro e wN ⟨rfl, qN⟩; have hN := PredAt.same qN (by assumption); have kN : But (fun _ => False) w1 wN := But.trans (by assumption) qN; have SN : wN.cell? ⟨l, 12, none⟩ = some (.slice (some ⟨g1, 0, none⟩) 2 2) ∧ wN.cell? ⟨g1, 0, none⟩ = some (.iface 57 (.pointer (some ⟨a1, 0, none⟩))) ∧ wN.cell? ⟨r, 12, none⟩ = some (.slice (some ⟨g2, 0, none⟩) 2 2) ∧ wN.cell? ⟨g2, 0, none⟩ = some (.iface 57 (.pointer (some ⟨a2, 0, none⟩))) := ⟨field (j := 1) hN.left rfl, cell_of hN.row1 rfl, field (j := 1) hN.right rfl, cell_of hN.row2 rfl⟩)
    | (go_at_call 87; with_reducible refine (typeK a2 t2 70 _ _ (PredAt.id2 (by assumption))).mono ?_; rintro e wN ⟨rfl, qN⟩; have hN := PredAt.same qN (by assumption); have kN : But (fun _ => False) w1 wN := But.trans (by assumption) qN; have SN : wN.cell? ⟨l, 12, none⟩ = some (.slice (some ⟨g1, 0, none⟩) 2 2) ∧ wN.cell? ⟨g1, 0, none⟩ = some (.iface 57 (.pointer (some ⟨a1, 0, none⟩))) ∧ wN.cell? ⟨r, 12, none⟩ = some (.slice (some ⟨g2, 0, none⟩) 2 2) ∧ wN.cell? ⟨g2, 0, none⟩ = some (.iface 57 (.pointer (some ⟨a2, 0, none⟩))) := ⟨field (j := 1) hN.left rfl, cell_of hN.row1 rfl, field (j := 1) hN.right rfl, cell_of hN.row2 rfl⟩)
    | (go_at_call 86; with_reducible refine (strK a1 t1 x1 _ (PredAt.id1 (by assumption))).mono ?_; rintro e wN ⟨rfl, rfl⟩)
    | (go_at_call 86; with_reducible refine (strK a2 t2 x2 _ (PredAt.id2 (by assumption))).mono ?_; rintro e wN ⟨rfl, rfl⟩))
  all_goals
    go_wp2
    go_returns
    exact ⟨rfl, by assumption⟩
theorem visit_none (x : Value) (i j k : Nat) (x1 x2 : ByteArray) (t1 t2 rt bn a1 a2 p q l r ps g1 g2 n1 n2 : Nat) (w : World) (hr : w.heap[rt]? = some (.cells #[(.iface 79 (.pointer (some ⟨bn, 0, none⟩)))] 45 (0, 0))) (h : PredAt w (opS k) (nmS i) (nmS j) x1 x2 t1 t2 rt bn a1 a2 p q l r ps g1 g2 n1 n2) (hi : i ≤ 4) (hj : j ≤ 4) (hk : k ≤ 5) (hm : cmbK i k = none) : Calls Tryr.prog 24 #[x, (.pointer (some ⟨rt, 0, none⟩))] w fun e w' => e = .returned (.tuple #[]) ∧ But (fun _ => False) w w' := by
  by_cases h3 : k ≤ 3
  · exact visit_comb x i j k x1 x2 t1 t2 rt bn a1 a2 p q l r ps g1 g2 n1 n2 w hr h hi hj hk h3 hm
  · exact visit_op x i j k x1 x2 t1 t2 rt bn a1 a2 p q l r ps g1 g2 n1 n2 w hr h hi hj hk (by omega)
theorem visit_words (x : Value) (i j k : Nat) (x1 x2 : ByteArray) (t1 t2 rt bn a1 a2 p q l r ps g1 g2 n1 n2 : Nat) (w : World) (hr : w.heap[rt]? = some (.cells #[(.iface 79 (.pointer (some ⟨bn, 0, none⟩)))] 45 (0, 0))) (h : PredAt w (opS k) (nmS i) (nmS j) x1 x2 t1 t2 rt bn a1 a2 p q l r ps g1 g2 n1 n2) (hi : i ≤ 4) (hj : j ≤ 4) (hk : k ≤ 5) (m : Nat) (h3 : k ≤ 3) (hm : cmbK i k = some m) (hn : i = j) (ht1 : t1 ≤ 4) (ht2 : t2 ≤ 4) (hx : x1 ≠ x2) : Calls Tryr.prog 24 #[x, (.pointer (some ⟨rt, 0, none⟩))] w fun e w' => e = .returned (.tuple #[]) ∧ But (fun _ => False) w w' := by
  by_cases ht : t1 = t2
  · exact visit_text x i j k x1 x2 t1 t2 rt bn a1 a2 p q l r ps g1 g2 n1 n2 w hr h hi hj hk m h3 hm hn ht1 ht2 ht hx
  · exact visit_type x i j k x1 x2 t1 t2 rt bn a1 a2 p q l r ps g1 g2 n1 n2 w hr h hi hj hk m h3 hm hn ht1 ht2 ht
theorem k3 {i k m : Nat} (hm : cmbK i k = some m) : k ≤ 3 := by
  unfold cmbK at hm
  split at hm <;> simp at hm <;> omega
end Go.Proofs.YtiddjmnknndcaaaReflFmt.opt
