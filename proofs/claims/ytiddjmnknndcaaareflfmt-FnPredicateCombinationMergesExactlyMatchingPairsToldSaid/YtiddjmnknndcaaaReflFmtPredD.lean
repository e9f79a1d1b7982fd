/-
The visit of a pair of predicates that is merged. No condition.
-/
import Derived.Test.YtiddjmnknndcaaaReflFmtPredC
namespace Go.Proofs.YtiddjmnknndcaaaReflFmt.opt
open Go Go.Proofs Go.RowKit
set_option maxRecDepth 100000
set_option maxHeartbeats 20000000
theorem keep6 {w : World} {o : Obj} {x1 x2 x3 x4 x5 x6 : Addr} {v1 v2 v3 v4 v5 v6 : Value} (h : w.cell? x1 = some v1 ∧ w.cell? x2 = some v2 ∧ w.cell? x3 = some v3 ∧ w.cell? x4 = some v4 ∧ w.cell? x5 = some v5 ∧ w.cell? x6 = some v6) : (w.alloc o).cell? x1 = some v1 ∧ (w.alloc o).cell? x2 = some v2 ∧ (w.alloc o).cell? x3 = some v3 ∧ (w.alloc o).cell? x4 = some v4 ∧ (w.alloc o).cell? x5 = some v5 ∧ (w.alloc o).cell? x6 = some v6 :=
  ⟨up h.1, up h.2.1, up h.2.2.1, up h.2.2.2.1, up h.2.2.2.2.1, up h.2.2.2.2.2⟩
theorem keep3 {w : World} {o : Obj} {x1 x2 x3 : Addr} {v1 v2 v3 : Value} (h : w.cell? x1 = some v1 ∧ w.cell? x2 = some v2 ∧ w.cell? x3 = some v3) : (w.alloc o).cell? x1 = some v1 ∧ (w.alloc o).cell? x2 = some v2 ∧ (w.alloc o).cell? x3 = some v3 :=
  ⟨up h.1, up h.2.1, up h.2.2⟩
theorem mLe {i k m : Nat} (hm : cmbK i k = some m) : m ≤ 3 := by
  unfold cmbK at hm
  split at hm <;> simp at hm <;> omega
theorem visit_fire (x : Value) (i j k : Nat) (x1 x2 : ByteArray) (t1 t2 rt bn a1 a2 p q l r ps g1 g2 n1 n2 : Nat) (w : World) (hr : w.heap[rt]? = some (.cells #[(.iface 79 (.pointer (some ⟨bn, 0, none⟩)))] 45 (0, 0))) (h : PredAt w (opS k) (nmS i) (nmS j) x1 x2 t1 t2 rt bn a1 a2 p q l r ps g1 g2 n1 n2) (_hi : i ≤ 4) (hj : j ≤ 4) (_hk : k ≤ 5) (m : Nat) (h3 : k ≤ 3) (hm : cmbK i k = some m) (hn : i = j) (ht1 : t1 ≤ 4) (ht2 : t2 ≤ 4) (ht : t1 = t2) (hx : x1 = x2) :
    Calls Tryr.prog 24 #[x, (.pointer (some ⟨rt, 0, none⟩))] w fun e w' => e = .returned (.tuple #[]) ∧ ∃ nb g pr b2, w'.heap[rt]? = some (.cells #[(.iface 72 (.pointer (some ⟨nb, 0, none⟩)))] 45 (0, 0)) ∧ w'.heap[nb]? = some (.cells (nodeC 1 #[.string (nmS i), .slice (some ⟨g, 0, none⟩) 2 2, .bool false, .nilIface, .pointer none]) 78 (0, 0)) ∧ w'.heap[g]? = some (.cells #[(.iface 57 (.pointer (some ⟨a1, 0, none⟩))), (.iface 73 (.pointer (some ⟨pr, 0, none⟩)))] 45 (0, 0)) ∧ w'.heap[pr]? = some (.cells (nodeC 0 #[(.iface 79 (.pointer (some ⟨b2, 0, none⟩)))]) 75 (0, 0)) ∧ w'.heap[b2]? = some (.cells (nodeC 0 #[.string (opS m), (.iface 57 (.pointer (some ⟨p, 0, none⟩))), (.iface 57 (.pointer (some ⟨q, 0, none⟩)))]) 81 (0, 0)) ∧ But (fun k => k = rt) w w' := by
  subst hn
  have hte : (tyN (ans t1) == tyN (ans t2)) = true := by rw [tyEq t1 t2 ht1 ht2]; simp [ht]
  have hxe : (x1.toList == x2.toList) = true := by rw [hx]; exact beq_self_eq_true _
  have hne : ((nmS i).toList == (nmS i).toList) = true := beq_self_eq_true _
  clear ht hx
  have c0 : w.cell? ⟨rt, 0, none⟩ = some (.iface 79 (.pointer (some ⟨bn, 0, none⟩))) := cell_of hr rfl
  have c1 : w.cell? ⟨bn, 11, none⟩ = some (.string (opS k)) := field (j := 0) h.bin rfl
  have c2 : w.cell? ⟨bn, 12, none⟩ = some (.iface 72 (.pointer (some ⟨l, 0, none⟩))) := field (j := 1) h.bin rfl
  have c3 : w.cell? ⟨bn, 13, none⟩ = some (.iface 72 (.pointer (some ⟨r, 0, none⟩))) := field (j := 2) h.bin rfl
  have c4 : w.cell? ⟨l, 11, none⟩ = some (.string (nmS i)) := field (j := 0) h.left rfl
  have c5 : w.cell? ⟨l, 12, none⟩ = some (.slice (some ⟨g1, 0, none⟩) 2 2) := field (j := 1) h.left rfl
  have c6 : w.cell? ⟨r, 11, none⟩ = some (.string (nmS i)) := field (j := 0) h.right rfl
  have c7 : w.cell? ⟨r, 12, none⟩ = some (.slice (some ⟨g2, 0, none⟩) 2 2) := field (j := 1) h.right rfl
  have c8 : w.cell? ⟨g1, 0, none⟩ = some (.iface 57 (.pointer (some ⟨a1, 0, none⟩))) := cell_of h.row1 rfl
  have c9 : w.cell? ⟨g1, 1, none⟩ = some (.iface 73 (.pointer (some ⟨n1, 0, none⟩))) := cell_of h.row1 rfl
  have c10 : w.cell? ⟨g2, 0, none⟩ = some (.iface 57 (.pointer (some ⟨a2, 0, none⟩))) := cell_of h.row2 rfl
  have c11 : w.cell? ⟨g2, 1, none⟩ = some (.iface 73 (.pointer (some ⟨n2, 0, none⟩))) := cell_of h.row2 rfl
  have c12 : w.cell? ⟨n1, 11, none⟩ = some (.iface 57 (.pointer (some ⟨p, 0, none⟩))) := field (j := 0) h.pr1 rfl
  have c13 : w.cell? ⟨n2, 11, none⟩ = some (.iface 57 (.pointer (some ⟨q, 0, none⟩))) := field (j := 0) h.pr2 rfl
  have ta1 := asIdentifierNode
  have ta2 := asPredicateNode
  have ta3 := asBuiltinNode
  have ta4 := asBinaryNode
  have ta5 := notU
  have ta6 := onlyP
  have m1 := mType isPD a1
  have m2 := mType isPD a2
  have m3 := mString
  have ge : ∀ w, (Go.binOp .eql 61 (.iface 101 (.pointer (some ⟨3, tyN (ans t1), none⟩))) (.iface 101 (.pointer (some ⟨3, tyN (ans t2), none⟩)))).run Tryr.prog w = .ok (.bool true) w := fun w => by rw [eql, hte]
  go_enter Tryr.func24, Tryr.ntmps24
  go_wp2_with fail
  refine (isBoolT k h3 _).mono ?_
  rintro e w1 ⟨rfl, rfl⟩
  go_wp2
  have SC : w1.drew.cell? ⟨l, 11, none⟩ = some (.string (nmS i)) ∧ w1.drew.cell? ⟨bn, 11, none⟩ = some (.string (opS k)) := ⟨field (j := 0) h.left rfl, field (j := 0) h.bin rfl⟩
  go_region_held3 (fun w' => w'.cell? ⟨l, 11, none⟩ = some (.string (nmS i)) ∧ w'.cell? ⟨bn, 11, none⟩ = some (.string (opS k))) (assumption) (first | (go_at_call 32; refine (combOpT i k m hm _).mono ?_; rintro e wN ⟨rfl, rfl⟩))
  have hD : PredAt w1.drew (opS k) (nmS i) (nmS i) x1 x2 t1 t2 rt bn a1 a2 p q l r ps g1 g2 n1 n2 := h.same (But.refl _ _).drew
  clear SC
  have d0 : w1.drew.cell? ⟨rt, 0, none⟩ = some (.iface 79 (.pointer (some ⟨bn, 0, none⟩))) := cell_of hr rfl
  have d1 : w1.drew.cell? ⟨bn, 11, none⟩ = some (.string (opS k)) := field (j := 0) hD.bin rfl
  have d2 : w1.drew.cell? ⟨bn, 12, none⟩ = some (.iface 72 (.pointer (some ⟨l, 0, none⟩))) := field (j := 1) hD.bin rfl
  have d3 : w1.drew.cell? ⟨bn, 13, none⟩ = some (.iface 72 (.pointer (some ⟨r, 0, none⟩))) := field (j := 2) hD.bin rfl
  have d4 : w1.drew.cell? ⟨l, 11, none⟩ = some (.string (nmS i)) := field (j := 0) hD.left rfl
  have d5 : w1.drew.cell? ⟨l, 12, none⟩ = some (.slice (some ⟨g1, 0, none⟩) 2 2) := field (j := 1) hD.left rfl
  have d6 : w1.drew.cell? ⟨r, 11, none⟩ = some (.string (nmS i)) := field (j := 0) hD.right rfl
  have d7 : w1.drew.cell? ⟨r, 12, none⟩ = some (.slice (some ⟨g2, 0, none⟩) 2 2) := field (j := 1) hD.right rfl
  have d8 : w1.drew.cell? ⟨g1, 0, none⟩ = some (.iface 57 (.pointer (some ⟨a1, 0, none⟩))) := cell_of hD.row1 rfl
  have d9 : w1.drew.cell? ⟨g1, 1, none⟩ = some (.iface 73 (.pointer (some ⟨n1, 0, none⟩))) := cell_of hD.row1 rfl
  have d10 : w1.drew.cell? ⟨g2, 0, none⟩ = some (.iface 57 (.pointer (some ⟨a2, 0, none⟩))) := cell_of hD.row2 rfl
  have d11 : w1.drew.cell? ⟨g2, 1, none⟩ = some (.iface 73 (.pointer (some ⟨n2, 0, none⟩))) := cell_of hD.row2 rfl
  have d12 : w1.drew.cell? ⟨n1, 11, none⟩ = some (.iface 57 (.pointer (some ⟨p, 0, none⟩))) := field (j := 0) hD.pr1 rfl
  have d13 : w1.drew.cell? ⟨n2, 11, none⟩ = some (.iface 57 (.pointer (some ⟨q, 0, none⟩))) := field (j := 0) hD.pr2 rfl
  go_wp2
  have SN : w1.drew.drew.cell? ⟨bn, 13, none⟩ = some (.iface 72 (.pointer (some ⟨r, 0, none⟩))) ∧ w1.drew.drew.cell? ⟨r, 11, none⟩ = some (.string (nmS i)) ∧ w1.drew.drew.cell? ⟨l, 11, none⟩ = some (.string (nmS i)) := ⟨field (j := 2) h.bin rfl, field (j := 0) h.right rfl, field (j := 0) h.left rfl⟩
  go_region_held3 (fun w' => w'.cell? ⟨bn, 13, none⟩ = some (.iface 72 (.pointer (some ⟨r, 0, none⟩))) ∧ w'.cell? ⟨r, 11, none⟩ = some (.string (nmS i)) ∧ w'.cell? ⟨l, 11, none⟩ = some (.string (nmS i))) (assumption) (fail)
  clear SN
  go_wp2
  have hd : PredAt w1.drew.drew.drew (opS k) (nmS i) (nmS i) x1 x2 t1 t2 rt bn a1 a2 p q l r ps g1 g2 n1 n2 := hD.same (But.refl _ _).drew.drew
  have k0 : But (fun _ => False) w1 w1.drew.drew.drew := (But.refl _ _).drew.drew.drew
  have S0 : w1.drew.drew.drew.cell? ⟨l, 12, none⟩ = some (.slice (some ⟨g1, 0, none⟩) 2 2) ∧ w1.drew.drew.drew.cell? ⟨g1, 0, none⟩ = some (.iface 57 (.pointer (some ⟨a1, 0, none⟩))) ∧ w1.drew.drew.drew.cell? ⟨r, 12, none⟩ = some (.slice (some ⟨g2, 0, none⟩) 2 2) ∧ w1.drew.drew.drew.cell? ⟨g2, 0, none⟩ = some (.iface 57 (.pointer (some ⟨a2, 0, none⟩))) := ⟨field (j := 1) hd.left rfl, cell_of hd.row1 rfl, field (j := 1) hd.right rfl, cell_of hd.row2 rfl⟩
  go_region_held3 (fun w' => w'.cell? ⟨l, 12, none⟩ = some (.slice (some ⟨g1, 0, none⟩) 2 2) ∧ w'.cell? ⟨g1, 0, none⟩ = some (.iface 57 (.pointer (some ⟨a1, 0, none⟩))) ∧ w'.cell? ⟨r, 12, none⟩ = some (.slice (some ⟨g2, 0, none⟩) 2 2) ∧ w'.cell? ⟨g2, 0, none⟩ = some (.iface 57 (.pointer (some ⟨a2, 0, none⟩)))) (assumption) (first
    | (go_at_call 87; with_reducible refine (typeK a1 t1 70 _ _ (PredAt.id1 (by assumption))).mono ?_; rintro e wN ⟨rfl, qN⟩; have hN := PredAt.same qN (by assumption); have kN : But (fun _ => False) w1 wN := But.trans (by assumption) qN; have SN : wN.cell? ⟨l, 12, none⟩ = some (.slice (some ⟨g1, 0, none⟩) 2 2) ∧ wN.cell? ⟨g1, 0, none⟩ = some (.iface 57 (.pointer (some ⟨a1, 0, none⟩))) ∧ wN.cell? ⟨r, 12, none⟩ = some (.slice (some ⟨g2, 0, none⟩) 2 2) ∧ wN.cell? ⟨g2, 0, none⟩ = some (.iface 57 (.pointer (some ⟨a2, 0, none⟩))) := ⟨field (j := 1) hN.left rfl, cell_of hN.row1 rfl, field (j := 1) hN.right rfl, cell_of hN.row2 rfl⟩)
    | (go_at_call 87; with_reducible refine (typeK a2 t2 70 _ _ (PredAt.id2 (by assumption))).mono ?_; rintro e wN ⟨rfl, qN⟩; have hN := PredAt.same qN (by assumption); have kN : But (fun _ => False) w1 wN := But.trans (by assumption) qN; have SN : wN.cell? ⟨l, 12, none⟩ = some (.slice (some ⟨g1, 0, none⟩) 2 2) ∧ wN.cell? ⟨g1, 0, none⟩ = some (.iface 57 (.pointer (some ⟨a1, 0, none⟩))) ∧ wN.cell? ⟨r, 12, none⟩ = some (.slice (some ⟨g2, 0, none⟩) 2 2) ∧ wN.cell? ⟨g2, 0, none⟩ = some (.iface 57 (.pointer (some ⟨a2, 0, none⟩))) := ⟨field (j := 1) hN.left rfl, cell_of hN.row1 rfl, field (j := 1) hN.right rfl, cell_of hN.row2 rfl⟩)
    | (go_at_call 86; with_reducible refine (strK a1 t1 x1 _ (PredAt.id1 (by assumption))).mono ?_; rintro e wN ⟨rfl, rfl⟩)
    | (go_at_call 86; with_reducible refine (strK a2 t2 x2 _ (PredAt.id2 (by assumption))).mono ?_; rintro e wN ⟨rfl, rfl⟩))
  go_wp2
  have hE : PredAt wN.drew (opS k) (nmS i) (nmS i) x1 x2 t1 t2 rt bn a1 a2 p q l r ps g1 g2 n1 n2 := PredAt.same (But.refl _ wN).drew (by assumption)
  have S1 : wN.drew.cell? ⟨l, 12, none⟩ = some (.slice (some ⟨g1, 0, none⟩) 2 2) ∧ wN.drew.cell? ⟨g1, 1, none⟩ = some (.iface 73 (.pointer (some ⟨n1, 0, none⟩))) ∧ wN.drew.cell? ⟨n1, 11, none⟩ = some (.iface 57 (.pointer (some ⟨p, 0, none⟩))) ∧ wN.drew.cell? ⟨r, 12, none⟩ = some (.slice (some ⟨g2, 0, none⟩) 2 2) ∧ wN.drew.cell? ⟨g2, 1, none⟩ = some (.iface 73 (.pointer (some ⟨n2, 0, none⟩))) ∧ wN.drew.cell? ⟨n2, 11, none⟩ = some (.iface 57 (.pointer (some ⟨q, 0, none⟩))) := ⟨field (j := 1) hE.left rfl, cell_of hE.row1 rfl, field (j := 0) hE.pr1 rfl, field (j := 1) hE.right rfl, cell_of hE.row2 rfl, field (j := 0) hE.pr2 rfl⟩
  go_region_held3 (fun w' => w'.cell? ⟨l, 12, none⟩ = some (.slice (some ⟨g1, 0, none⟩) 2 2) ∧ w'.cell? ⟨g1, 1, none⟩ = some (.iface 73 (.pointer (some ⟨n1, 0, none⟩))) ∧ w'.cell? ⟨n1, 11, none⟩ = some (.iface 57 (.pointer (some ⟨p, 0, none⟩))) ∧ w'.cell? ⟨r, 12, none⟩ = some (.slice (some ⟨g2, 0, none⟩) 2 2) ∧ w'.cell? ⟨g2, 1, none⟩ = some (.iface 73 (.pointer (some ⟨n2, 0, none⟩))) ∧ w'.cell? ⟨n2, 11, none⟩ = some (.iface 57 (.pointer (some ⟨q, 0, none⟩)))) (first | assumption | exact keep6 (by assumption)) (fail)
  all_goals
    go_wp2_with fail
    have F1 : ((wN.alloc (.cells #[.int .i64 0, .int .i64 0, .nilIface, .int .u64 0, .pointer none, .pointer none, .bool false, .bool false, .bool false, .bool false, .bool false, .string (opS m), (.iface 57 (.pointer (some ⟨p, 0, none⟩))), (.iface 57 (.pointer (some ⟨q, 0, none⟩)))] 81)).alloc (.cells #[.int .i64 0, .int .i64 0, .nilIface, .int .u64 0, .pointer none, .pointer none, .bool false, .bool false, .bool false, .bool false, .bool false, (.iface 79 (.pointer (some ⟨wN.heap.size, 0, none⟩)))] 75)).drew.heap[wN.heap.size]? = some (.cells (nodeC 0 #[.string (opS m), (.iface 57 (.pointer (some ⟨p, 0, none⟩))), (.iface 57 (.pointer (some ⟨q, 0, none⟩)))]) 81 (0, 0)) := by
      rw [lit3]
      exact h_old _ (h_new wN _)
    have F2 : ((wN.alloc (.cells #[.int .i64 0, .int .i64 0, .nilIface, .int .u64 0, .pointer none, .pointer none, .bool false, .bool false, .bool false, .bool false, .bool false, .string (opS m), (.iface 57 (.pointer (some ⟨p, 0, none⟩))), (.iface 57 (.pointer (some ⟨q, 0, none⟩)))] 81)).alloc (.cells #[.int .i64 0, .int .i64 0, .nilIface, .int .u64 0, .pointer none, .pointer none, .bool false, .bool false, .bool false, .bool false, .bool false, (.iface 79 (.pointer (some ⟨wN.heap.size, 0, none⟩)))] 75)).drew.heap[wN.heap.size + 1]? = some (.cells (nodeC 0 #[(.iface 79 (.pointer (some ⟨wN.heap.size, 0, none⟩)))]) 75 (0, 0)) := by
      rw [lit1]
      exact h_new1 wN _ _
    have kA : But (fun _ => False) w1 ((wN.alloc (.cells #[.int .i64 0, .int .i64 0, .nilIface, .int .u64 0, .pointer none, .pointer none, .bool false, .bool false, .bool false, .bool false, .bool false, .string (opS m), (.iface 57 (.pointer (some ⟨p, 0, none⟩))), (.iface 57 (.pointer (some ⟨q, 0, none⟩)))] 81)).alloc (.cells #[.int .i64 0, .int .i64 0, .nilIface, .int .u64 0, .pointer none, .pointer none, .bool false, .bool false, .bool false, .bool false, .bool false, (.iface 79 (.pointer (some ⟨wN.heap.size, 0, none⟩)))] 75)).drew := ((kN.alloc _).alloc _).drew
    have hA : PredAt ((wN.alloc (.cells #[.int .i64 0, .int .i64 0, .nilIface, .int .u64 0, .pointer none, .pointer none, .bool false, .bool false, .bool false, .bool false, .bool false, .string (opS m), (.iface 57 (.pointer (some ⟨p, 0, none⟩))), (.iface 57 (.pointer (some ⟨q, 0, none⟩)))] 81)).alloc (.cells #[.int .i64 0, .int .i64 0, .nilIface, .int .u64 0, .pointer none, .pointer none, .bool false, .bool false, .bool false, .bool false, .bool false, (.iface 79 (.pointer (some ⟨wN.heap.size, 0, none⟩)))] 75)).drew (opS k) (nmS i) (nmS i) x1 x2 t1 t2 rt bn a1 a2 p q l r ps g1 g2 n1 n2 := PredAt.same (((But.refl (fun _ => False) wN).alloc _).alloc _).drew (by assumption)
    have hrA := kA.keep id hr
    have lrN := lt_of (kN.keep id hr)
    generalize ((wN.alloc (.cells #[.int .i64 0, .int .i64 0, .nilIface, .int .u64 0, .pointer none, .pointer none, .bool false, .bool false, .bool false, .bool false, .bool false, .string (opS m), (.iface 57 (.pointer (some ⟨p, 0, none⟩))), (.iface 57 (.pointer (some ⟨q, 0, none⟩)))] 81)).alloc (.cells #[.int .i64 0, .int .i64 0, .nilIface, .int .u64 0, .pointer none, .pointer none, .bool false, .bool false, .bool false, .bool false, .bool false, (.iface 79 (.pointer (some ⟨wN.heap.size, 0, none⟩)))] 75)).drew = wA at F1 F2 kA hA hrA ⊢
    clear hE S1 kN hN k0 hD h
    refine (leafT _ m (wN.heap.size + 1) 11 wN.heap.size 0 p _ (mLe hm) _ (field (j := 0) F2 rfl) F1).mono ?_
    rintro e w2 ⟨rfl, rfl⟩
    go_wp2
    have hB : PredAt w2.drew (opS k) (nmS i) (nmS i) x1 x2 t1 t2 rt bn a1 a2 p q l r ps g1 g2 n1 n2 := hA.same (But.refl _ _).drew
    have lb := lt_of hA.bin
    have lr := lt_of hrA
    have lf := lt_of F2
    have S2 : w2.drew.cell? ⟨l, 11, none⟩ = some (.string (nmS i)) ∧ w2.drew.cell? ⟨l, 12, none⟩ = some (.slice (some ⟨g1, 0, none⟩) 2 2) ∧ w2.drew.cell? ⟨g1, 0, none⟩ = some (.iface 57 (.pointer (some ⟨a1, 0, none⟩))) := ⟨field (j := 0) hB.left rfl, field (j := 1) hB.left rfl, cell_of hB.row1 rfl⟩
    have hC : PredAt ((w2.drew.alloc (.cells #[(.iface 57 (.pointer (some ⟨a1, 0, none⟩))), (.iface 73 (.pointer (some ⟨wN.heap.size + 1, 0, none⟩)))] 45)).alloc (.cells #[.int .i64 0, .int .i64 0, .nilIface, .int .u64 0, .pointer none, .pointer none, .bool false, .bool false, .bool false, .bool false, .bool false, .string (nmS i), .slice (some ⟨w2.heap.size, 0, none⟩) 2 2, .bool false, .nilIface, .pointer none] 78)) (opS k) (nmS i) (nmS i) x1 x2 t1 t2 rt bn a1 a2 p q l r ps g1 g2 n1 n2 := hB.same (((But.refl (fun _ => False) w2.drew).alloc _).alloc _)
    have G0 : ((w2.drew.alloc (.cells #[(.iface 57 (.pointer (some ⟨a1, 0, none⟩))), (.iface 73 (.pointer (some ⟨wN.heap.size + 1, 0, none⟩)))] 45)).alloc (.cells #[.int .i64 0, .int .i64 0, .nilIface, .int .u64 0, .pointer none, .pointer none, .bool false, .bool false, .bool false, .bool false, .bool false, .string (nmS i), .slice (some ⟨w2.heap.size, 0, none⟩) 2 2, .bool false, .nilIface, .pointer none] 78)).heap[rt]? = some (.cells #[(.iface 79 (.pointer (some ⟨bn, 0, none⟩)))] 45 (0, 0)) := h_old _ (h_old _ hrA)
    have G2 : ((w2.drew.alloc (.cells #[(.iface 57 (.pointer (some ⟨a1, 0, none⟩))), (.iface 73 (.pointer (some ⟨wN.heap.size + 1, 0, none⟩)))] 45)).alloc (.cells #[.int .i64 0, .int .i64 0, .nilIface, .int .u64 0, .pointer none, .pointer none, .bool false, .bool false, .bool false, .bool false, .bool false, .string (nmS i), .slice (some ⟨w2.heap.size, 0, none⟩) 2 2, .bool false, .nilIface, .pointer none] 78)).heap[w2.heap.size + 1]? = some (.cells (nodeC 0 #[.string (nmS i), .slice (some ⟨w2.heap.size, 0, none⟩) 2 2, .bool false, .nilIface, .pointer none]) 78 (0, 0)) := by
      rw [lit5]
      exact h_new1 w2.drew _ _
    have G3 : ((w2.drew.alloc (.cells #[(.iface 57 (.pointer (some ⟨a1, 0, none⟩))), (.iface 73 (.pointer (some ⟨wN.heap.size + 1, 0, none⟩)))] 45)).alloc (.cells #[.int .i64 0, .int .i64 0, .nilIface, .int .u64 0, .pointer none, .pointer none, .bool false, .bool false, .bool false, .bool false, .bool false, .string (nmS i), .slice (some ⟨w2.heap.size, 0, none⟩) 2 2, .bool false, .nilIface, .pointer none] 78)).heap[w2.heap.size]? = some (.cells #[(.iface 57 (.pointer (some ⟨a1, 0, none⟩))), (.iface 73 (.pointer (some ⟨wN.heap.size + 1, 0, none⟩)))] 45 (0, 0)) := h_old _ (h_new w2.drew _)
    have G4 := h_old (.cells #[.int .i64 0, .int .i64 0, .nilIface, .int .u64 0, .pointer none, .pointer none, .bool false, .bool false, .bool false, .bool false, .bool false, .string (nmS i), .slice (some ⟨w2.heap.size, 0, none⟩) 2 2, .bool false, .nilIface, .pointer none] 78) (h_old (.cells #[(.iface 57 (.pointer (some ⟨a1, 0, none⟩))), (.iface 73 (.pointer (some ⟨wN.heap.size + 1, 0, none⟩)))] 45) F1)
    have G5 := h_old (.cells #[.int .i64 0, .int .i64 0, .nilIface, .int .u64 0, .pointer none, .pointer none, .bool false, .bool false, .bool false, .bool false, .bool false, .string (nmS i), .slice (some ⟨w2.heap.size, 0, none⟩) 2 2, .bool false, .nilIface, .pointer none] 78) (h_old (.cells #[(.iface 57 (.pointer (some ⟨a1, 0, none⟩))), (.iface 73 (.pointer (some ⟨wN.heap.size + 1, 0, none⟩)))] 45) F2)
    have n12 : bn ≠ w2.heap.size + 1 := by omega
    have n2r : rt ≠ w2.heap.size + 1 := by omega
    have far := hC.far
    go_region_held3 (fun w' => w'.cell? ⟨l, 11, none⟩ = some (.string (nmS i)) ∧ w'.cell? ⟨l, 12, none⟩ = some (.slice (some ⟨g1, 0, none⟩) 2 2) ∧ w'.cell? ⟨g1, 0, none⟩ = some (.iface 57 (.pointer (some ⟨a1, 0, none⟩)))) (first | assumption | exact keep3 (by assumption)) (first
      | (go_at_call 33; refine (copyW isPB isPU rt bn (w2.heap.size + 1) 1 0 81 78 (by decide) _ _ _ G0 hC.bin G2 n12 n2r).mono ?_; rintro e w3 ⟨rfl, q3, y3, y4⟩; have ll := lt_of hA.left; have lg := lt_of hA.row1; have S3 : w3.cell? ⟨l, 11, none⟩ = some (.string (nmS i)) ∧ w3.cell? ⟨l, 12, none⟩ = some (.slice (some ⟨g1, 0, none⟩) 2 2) ∧ w3.cell? ⟨g1, 0, none⟩ = some (.iface 57 (.pointer (some ⟨a1, 0, none⟩))) := ⟨field (j := 0) (q3.keep (by omega) hC.left) rfl, field (j := 1) (q3.keep (by omega) hC.left) rfl, cell_of (q3.keep (by omega) hC.row1) rfl⟩))
    all_goals
      go_wp2
      go_returns
      have G3' := q3.keep (by omega) G3
      have G4' := q3.keep (by omega) G4
      have G5' := q3.keep (by omega) G5
      have sA := kA.size
      refine ⟨rfl, w2.heap.size + 1, w2.heap.size, wN.heap.size + 1, wN.heap.size, y4, y3, G3', G5', G4', But.old ?_⟩
      exact (((((kA.mono (S' := fun k => k = rt ∨ w1.heap.size ≤ k) (fun _ h => h.elim)).drew).alloc _).alloc _).trans (q3.mono (fun k hk => by omega)))
end Go.Proofs.YtiddjmnknndcaaaReflFmt.opt
