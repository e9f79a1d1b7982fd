/-
Row 11: what its walks share. No condition.
-/
import Derived.Test.YtiddjmnknndcaaaReflFmtPredD
namespace Go.Proofs.YtiddjmnknndcaaaReflFmt.opt
open Go Go.Proofs Go.RowKit
set_option maxRecDepth 100000
set_option maxHeartbeats 8000000
/-- the two words' lengths are within bounds -/
def inBounds (a b : Nat) : Bool := decide (a ≤ 1048576 ∧ b ≤ 1048576 ∧ a + b ≤ 1048576)
theorem bytes11 (a b c d e : Value) (x1 x2 : ByteArray) (w : World) : Calls Tryr.prog 4 #[a, b, c, .string x1, .string x2, d, e] w fun e w' => e = .returned (.bool (inBounds x1.size x2.size)) ∧ w' = w := by
  by_cases h1 : (1048576 : Int) < x1.size
  · have hb : inBounds x1.size x2.size = false := by unfold inBounds; rw [decide_eq_false_iff_not]; omega
    go_enter Tryr.func4, Tryr.ntmps4
    go_wp2
    go_ret
    exact ⟨by first | rfl | (rw [hb]; rfl), rfl⟩
  · by_cases h2 : (1048576 : Int) < x2.size
    · have hb : inBounds x1.size x2.size = false := by unfold inBounds; rw [decide_eq_false_iff_not]; omega
      go_enter Tryr.func4, Tryr.ntmps4
      go_wp2
      go_ret
      exact ⟨by first | rfl | (rw [hb]; rfl), rfl⟩
    · by_cases h3 : (1048576 : Int) < (x1.size : Int) + x2.size
      · have hb : inBounds x1.size x2.size = false := by unfold inBounds; rw [decide_eq_false_iff_not]; omega
        go_enter Tryr.func4, Tryr.ntmps4
        go_wp2
        go_ret
        exact ⟨by first | rfl | (rw [hb]; rfl), rfl⟩
      · have hb : inBounds x1.size x2.size = true := by unfold inBounds; rw [decide_eq_true_iff]; omega
        go_enter Tryr.func4, Tryr.ntmps4
        go_wp2
        go_ret
        exact ⟨by first | rfl | (rw [hb]; rfl), rfl⟩
theorem inBounds_of {a b : Nat} (ha : a ≤ 4096) (hb : b ≤ 4096) : inBounds a b = true := by unfold inBounds; rw [decide_eq_true_iff]; omega
theorem zzVisitP (rt ps : Nat) (w : World) (Q : World → Prop) (key : ∀ x w1, But (fun _ => False) w w1 → Calls Tryr.prog 24 #[x, (.pointer (some ⟨rt, 0, none⟩))] w1 fun e w' => e = .returned (.tuple #[]) ∧ Q w') :
    Calls Tryr.prog 8 #[.agg #[(.pointer (some ⟨rt, 0, none⟩)), .slice (some ⟨ps, 0, none⟩) 7 7]] w fun e w' => e = .returned (.tuple #[]) ∧ Q w' := by
  go_enter Tryr.func8, Tryr.ntmps8
  go_wp2_with fail
  refine (key _ _ (((But.refl _ _).alloc _).alloc _)).mono ?_
  rintro e w1 ⟨rfl, hq⟩
  go_wp2
  go_returns
  exact ⟨rfl, hq⟩
/-- what the law's tail knows: the pair, the case, the root, the binary; not fired -/
structure TailN (W w : World) (op nm1 nm2 x1 x2 : ByteArray) (t1 t2 rt bn a1 a2 p q l r ps g1 g2 n1 n2 vc vr vb : Nat) : Prop where
  pred : PredAt w op nm1 nm2 x1 x2 t1 t2 rt bn a1 a2 p q l r ps g1 g2 n1 n2
  c : w.heap[vc]? = some (.cells #[(.pointer (some ⟨rt, 0, none⟩)), .slice (some ⟨ps, 0, none⟩) 7 7] 41 (0, 0))
  root : w.heap[vr]? = some (.cells #[(.iface 79 (.pointer (some ⟨bn, 0, none⟩)))] 47 (0, 0))
  bin : w.heap[vb]? = some (.cells #[(.iface 79 (.pointer (some ⟨bn, 0, none⟩)))] 47 (0, 0))
  below : Below W.heap.size W w
theorem TailN.same {W w w' : World} {op nm1 nm2 x1 x2 : ByteArray} {t1 t2 rt bn a1 a2 p q l r ps g1 g2 n1 n2 vc vr vb : Nat} (k : But (fun _ => False) w w') (h : TailN W w op nm1 nm2 x1 x2 t1 t2 rt bn a1 a2 p q l r ps g1 g2 n1 n2 vc vr vb) : TailN W w' op nm1 nm2 x1 x2 t1 t2 rt bn a1 a2 p q l r ps g1 g2 n1 n2 vc vr vb where
  pred := h.pred.same k
  c := k.keep id h.c
  root := k.keep id h.root
  bin := k.keep id h.bin
  below := h.below.trans (k.below h.below.size (fun _ h => h.elim))
/-- and where it fired -/
structure TailF (W w : World) (op nm1 nm2 x1 x2 : ByteArray) (t1 t2 rt bn a1 a2 p q l r ps g1 g2 n1 n2 vc vr nb g pr b2 : Nat) (oc : ByteArray) : Prop where
  pred : PredAt w op nm1 nm2 x1 x2 t1 t2 rt bn a1 a2 p q l r ps g1 g2 n1 n2
  c : w.heap[vc]? = some (.cells #[(.pointer (some ⟨rt, 0, none⟩)), .slice (some ⟨ps, 0, none⟩) 7 7] 41 (0, 0))
  root : w.heap[vr]? = some (.cells #[(.iface 72 (.pointer (some ⟨nb, 0, none⟩)))] 47 (0, 0))
  nb : w.heap[nb]? = some (.cells (nodeC 1 #[.string nm1, .slice (some ⟨g, 0, none⟩) 2 2, .bool false, .nilIface, .pointer none]) 78 (0, 0))
  row : w.heap[g]? = some (.cells #[(.iface 57 (.pointer (some ⟨a1, 0, none⟩))), (.iface 73 (.pointer (some ⟨pr, 0, none⟩)))] 45 (0, 0))
  pr : w.heap[pr]? = some (.cells (nodeC 0 #[(.iface 79 (.pointer (some ⟨b2, 0, none⟩)))]) 75 (0, 0))
  b2 : w.heap[b2]? = some (.cells (nodeC 0 #[.string oc, (.iface 57 (.pointer (some ⟨p, 0, none⟩))), (.iface 57 (.pointer (some ⟨q, 0, none⟩)))]) 81 (0, 0))
  below : Below W.heap.size W w
theorem TailF.same {W w w' : World} {op nm1 nm2 x1 x2 oc : ByteArray} {t1 t2 rt bn a1 a2 p q l r ps g1 g2 n1 n2 vc vr nb g pr b2 : Nat} (k : But (fun _ => False) w w') (h : TailF W w op nm1 nm2 x1 x2 t1 t2 rt bn a1 a2 p q l r ps g1 g2 n1 n2 vc vr nb g pr b2 oc) : TailF W w' op nm1 nm2 x1 x2 t1 t2 rt bn a1 a2 p q l r ps g1 g2 n1 n2 vc vr nb g pr b2 oc where
  pred := h.pred.same k
  c := k.keep id h.c
  root := k.keep id h.root
  nb := k.keep id h.nb
  row := k.keep id h.row
  pr := k.keep id h.pr
  b2 := k.keep id h.b2
  below := h.below.trans (k.below h.below.size (fun _ h => h.elim))
theorem TailN.s {W w : World} {op nm1 nm2 x1 x2 : ByteArray} {t1 t2 rt bn a1 a2 p q l r ps g1 g2 n1 n2 vc vr vb : Nat} (h : TailN W w op nm1 nm2 x1 x2 t1 t2 rt bn a1 a2 p q l r ps g1 g2 n1 n2 vc vr vb) : w.cell? ⟨vr, 0, none⟩ = some (.iface 79 (.pointer (some ⟨bn, 0, none⟩))) ∧ w.cell? ⟨vb, 0, none⟩ = some (.iface 79 (.pointer (some ⟨bn, 0, none⟩))) ∧ w.cell? ⟨vc, 0, none⟩ = some (.pointer (some ⟨rt, 0, none⟩)) ∧ w.cell? ⟨vc, 1, none⟩ = some (.slice (some ⟨ps, 0, none⟩) 7 7) := ⟨cell_of h.root rfl, cell_of h.bin rfl, cell_of h.c rfl, cell_of h.c rfl⟩
/-- and with the body's variable -/
structure TailG (W w : World) (op nm1 nm2 x1 x2 : ByteArray) (t1 t2 rt bn a1 a2 p q l r ps g1 g2 n1 n2 vc vr nb g pr b2 : Nat) (oc : ByteArray) (vy : Nat) : Prop where
  f : TailF W w op nm1 nm2 x1 x2 t1 t2 rt bn a1 a2 p q l r ps g1 g2 n1 n2 vc vr nb g pr b2 oc
  body : w.heap[vy]? = some (.cells #[(.iface 79 (.pointer (some ⟨b2, 0, none⟩)))] 47 (0, 0))
theorem TailG.same {W w w' : World} {op nm1 nm2 x1 x2 oc : ByteArray} {t1 t2 rt bn a1 a2 p q l r ps g1 g2 n1 n2 vc vr nb g pr b2 vy : Nat} (k : But (fun _ => False) w w') (h : TailG W w op nm1 nm2 x1 x2 t1 t2 rt bn a1 a2 p q l r ps g1 g2 n1 n2 vc vr nb g pr b2 oc vy) : TailG W w' op nm1 nm2 x1 x2 t1 t2 rt bn a1 a2 p q l r ps g1 g2 n1 n2 vc vr nb g pr b2 oc vy := ⟨h.f.same k, k.keep id h.body⟩
theorem TailG.s {W w : World} {op nm1 nm2 x1 x2 oc : ByteArray} {t1 t2 rt bn a1 a2 p q l r ps g1 g2 n1 n2 vc vr nb g pr b2 vy : Nat} (h : TailG W w op nm1 nm2 x1 x2 t1 t2 rt bn a1 a2 p q l r ps g1 g2 n1 n2 vc vr nb g pr b2 oc vy) : w.cell? ⟨vy, 0, none⟩ = some (.iface 79 (.pointer (some ⟨b2, 0, none⟩))) ∧ w.cell? ⟨vc, 0, none⟩ = some (.pointer (some ⟨rt, 0, none⟩)) ∧ w.cell? ⟨vc, 1, none⟩ = some (.slice (some ⟨ps, 0, none⟩) 7 7) := ⟨cell_of h.body rfl, cell_of h.f.c rfl, cell_of h.f.c rfl⟩
theorem TailF.g0 {W w : World} {op nm1 nm2 x1 x2 oc : ByteArray} {t1 t2 rt bn a1 a2 p q l r ps g1 g2 n1 n2 vc vr nb g pr b2 : Nat} (h : TailF W w op nm1 nm2 x1 x2 t1 t2 rt bn a1 a2 p q l r ps g1 g2 n1 n2 vc vr nb g pr b2 oc) : w.cell? ⟨g, 0, none⟩ = some (.iface 57 (.pointer (some ⟨a1, 0, none⟩))) := cell_of h.row rfl
theorem TailF.g1 {W w : World} {op nm1 nm2 x1 x2 oc : ByteArray} {t1 t2 rt bn a1 a2 p q l r ps g1 g2 n1 n2 vc vr nb g pr b2 : Nat} (h : TailF W w op nm1 nm2 x1 x2 t1 t2 rt bn a1 a2 p q l r ps g1 g2 n1 n2 vc vr nb g pr b2 oc) : w.cell? ⟨g, 1, none⟩ = some (.iface 73 (.pointer (some ⟨pr, 0, none⟩))) := cell_of h.row rfl
theorem TailF.s {W w : World} {op nm1 nm2 x1 x2 oc : ByteArray} {t1 t2 rt bn a1 a2 p q l r ps g1 g2 n1 n2 vc vr nb g pr b2 : Nat} (h : TailF W w op nm1 nm2 x1 x2 t1 t2 rt bn a1 a2 p q l r ps g1 g2 n1 n2 vc vr nb g pr b2 oc) : w.cell? ⟨vr, 0, none⟩ = some (.iface 72 (.pointer (some ⟨nb, 0, none⟩))) ∧ w.cell? ⟨vc, 0, none⟩ = some (.pointer (some ⟨rt, 0, none⟩)) ∧ w.cell? ⟨vc, 1, none⟩ = some (.slice (some ⟨ps, 0, none⟩) 7 7) := ⟨cell_of h.root rfl, cell_of h.c rfl, cell_of h.c rfl⟩
end Go.Proofs.YtiddjmnknndcaaaReflFmt.opt
