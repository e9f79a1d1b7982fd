/-
What the cache answers for the types 'any' and 'error' over this cut, whatever stood in it: any has no method set, error has one with one method. No condition.
-/
import Derived.Test.YthlmcnlkmgeohaaReflFmtMapB
namespace Go.Proofs.YthlmcnlkmgeohaaReflFmt.nat
open Go Go.Proofs Go.RowKit
set_option maxRecDepth 100000
set_option maxHeartbeats 1000000
/-- the states of the cache's map: which of the two types stand in it, and in which order -/
inductive MS | no | a | e | ae | ea
noncomputable def msEs : MS → Value → Array MapEntry × Nat
  | .no, _ => (#[], 0)
  | .a, _ => (#[eA 0], 1)
  | .e, v => (#[eE v 0], 1)
  | .ae, v => (#[eA 0, eE v 1], 2)
  | .ea, v => (#[eE v 0, eA 1], 2)
def hasE : MS → Bool
  | .e | .ae | .ea => true
  | _ => false
noncomputable abbrev setCells : Array Value := #[KE, .int .u64 20, .map none, .int .i64 1, .int .i64 0]
/-- the cache at block c is in state s; v points to error's method set where it stands in it -/
structure CacheAt (B : Nat) (w : World) (c : Nat) (s : MS) (v : Value) : Prop where
  base : B ≤ c
  map : (s = .no ∧ w.heap[c]? = some (.cells #[.map none, .map none] 44 (0, 0))) ∨
    (s ≠ .no ∧ ∃ m, B ≤ m ∧ m ≠ c ∧ w.heap[c]? = some (.cells #[.map (some m), .map none] 44 (0, 0)) ∧ w.heap[m]? = some (.map (msEs s v).1 (msEs s v).2))
  set : hasE s = true → ∃ b, v = .pointer (some ⟨b, 0, none⟩) ∧ w.heap[b]? = some (.cells setCells 90 (0, 0))
theorem nilT (w : World) : (binOp .eql 41 (.map none) (.map none)).run Tryr.prog w = .ok (.bool true) w := by kernel_rfl
theorem nilF (m : Nat) (w : World) : (binOp .eql 41 (.map (some m)) (.map none)).run Tryr.prog w = .ok (.bool false) w := by kernel_rfl
theorem mkM (w : World) : (Instr.makeMap 41 none).run Tryr.prog w = .ok (.map (some w.heap.size)) (w.alloc (.map #[] 0)) := rfl
abbrev GM : FuncId := 54
theorem ms_no_A {B c : Nat} {w : World} {v k : Value} (h : CacheAt B w c .no v) :
    Calls Tryr.prog 54 #[.pointer (some ⟨c, 0, none⟩), KA, k] w fun e w' => e = .returned (.pointer none) ∧ CacheAt B w' c .a v ∧ Turned B w w' := by
  obtain ⟨hB, h1, _⟩ := h
  have h1 := h1.elim And.right (fun h => absurd rfl h.1)
  have hl := lt_of h1
  have c1 := cell_of (j := 0) h1 rfl
  have hm0 : (w.alloc (.map #[] 0)).heap[w.heap.size]? = some (.map #[] 0) := h_new _ _
  have T0 := (Turned.refl B w).alloc (by omega) (.map #[] 0)
  have u1 := upd_new (.pointer none) hm0 chkA findA_0
  have T1 := T0.put (m := w.heap.size) (by omega) hm0 (.map (#[].push ⟨KA, .pointer none, 0⟩) (0 + 1))
  have m1 := put_same (.map (#[].push ⟨KA, .pointer none, 0⟩) (0 + 1)) hm0
  have k1 := (put_ne (m := w.heap.size) (.map (#[].push ⟨KA, .pointer none, 0⟩) (0 + 1)) (Nat.ne_of_lt hl)).trans (h_old (.map #[] 0) h1)
  generalize ({ w.alloc (.map #[] 0) with heap := (w.alloc (.map #[] 0)).heap.setIfInBounds w.heap.size (.map (#[].push ⟨KA, .pointer none, 0⟩) (0 + 1)) } : World) = W1 at u1 T1 m1 k1
  have c2 := cell_of (j := 0) k1 rfl
  have f2 := frozen_of (j := 0) k1
  have T2 := T1.cache hB k1 0 (.map (some w.heap.size))
  have k2 := h_set (j := 0) (.map (some w.heap.size)) k1
  have m2 := (h_set_ne (a := ⟨c, 0, none⟩) (.map (some w.heap.size)) (Nat.ne_of_gt hl)).trans m1
  have c3 := cell_of (j := 0) k2 rfl
  have u2 := upd_old (.pointer none) m2 chkA (findA_A 0 []) rfl rfl stayA
  have T3 := T2.put (m := w.heap.size) (by omega) m2 (.map ((#[].push ⟨KA, .pointer none, 0⟩ : Array MapEntry).modify 0 fun e => { e with key := KA, val := .pointer none }) (0 + 1))
  have m3 := put_same (.map ((#[].push ⟨KA, .pointer none, 0⟩ : Array MapEntry).modify 0 fun e => { e with key := KA, val := .pointer none }) (0 + 1)) m2
  have k3 := (put_ne (m := w.heap.size) (.map ((#[].push ⟨KA, .pointer none, 0⟩ : Array MapEntry).modify 0 fun e => { e with key := KA, val := .pointer none }) (0 + 1)) (Nat.ne_of_lt hl)).trans k2
  have HH : ∀ W3, W3.heap[w.heap.size]? = some (.map (#[eA 0]) 1) → W3.heap[c]? = some (.cells #[.map (some w.heap.size), .map none] 44 (0, 0)) → Turned B w W3 → (CacheAt B W3 c .a v ∧ Turned B w W3) :=
    fun W3 a b t => ⟨⟨hB, .inr ⟨by simp, w.heap.size, by omega, Nat.ne_of_gt hl, b, a⟩, by simp [hasE]⟩, t⟩
  clear T0 T1 T2 hm0 m1 m2 k1 h1
  have n0 := numA
  have n1 := nilT
  have mk := mkM
  go_enter Tryr.func54, Tryr.ntmps54
  go_wp2
  go_ret
  exact ⟨rfl, HH _ m3 k3 T3⟩
theorem ms_no_E {B c : Nat} {w : World} {v : Value} (h : CacheAt B w c .no v) :
    Calls Tryr.prog 54 #[.pointer (some ⟨c, 0, none⟩), KE, .int .u64 20] w fun e w' => ∃ b, e = .returned (.pointer (some ⟨b, 0, none⟩)) ∧ w'.heap[b]? = some (.cells setCells 90 (0, 0)) ∧ CacheAt B w' c .e (.pointer (some ⟨b, 0, none⟩)) ∧ Turned B w w' := by
  obtain ⟨hB, h1, _⟩ := h
  have h1 := h1.elim And.right (fun h => absurd rfl h.1)
  have hl := lt_of h1
  have c1 := cell_of (j := 0) h1 rfl
  have hm0 : (w.alloc (.map #[] 0)).heap[w.heap.size]? = some (.map #[] 0) := h_new _ _
  have T0 := (Turned.refl B w).alloc (by omega) (.map #[] 0)
  have u1 := upd_new (.pointer none) hm0 chkE findE_0
  have T1 := T0.put (m := w.heap.size) (by omega) hm0 (.map (#[].push ⟨KE, .pointer none, 0⟩) (0 + 1))
  have m1 := put_same (.map (#[].push ⟨KE, .pointer none, 0⟩) (0 + 1)) hm0
  have k1 := (put_ne (m := w.heap.size) (.map (#[].push ⟨KE, .pointer none, 0⟩) (0 + 1)) (Nat.ne_of_lt hl)).trans (h_old (.map #[] 0) h1)
  generalize ({ w.alloc (.map #[] 0) with heap := (w.alloc (.map #[] 0)).heap.setIfInBounds w.heap.size (.map (#[].push ⟨KE, .pointer none, 0⟩) (0 + 1)) } : World) = W1 at u1 T1 m1 k1
  have c2 := cell_of (j := 0) k1 rfl
  have f2 := frozen_of (j := 0) k1
  have T2 := T1.cache hB k1 0 (.map (some w.heap.size))
  have k2 := h_set (j := 0) (.map (some w.heap.size)) k1
  have m2 := (h_set_ne (a := ⟨c, 0, none⟩) (.map (some w.heap.size)) (Nat.ne_of_gt hl)).trans m1
  have c3 := cell_of (j := 0) k2 rfl
  have T3 := T2.alloc (by have := T2.below.size; omega) (.cells setCells 90)
  have m3 := h_old (.cells setCells 90) m2
  have k3 := h_old (.cells setCells 90) k2
  have s3 := h_new (W1.setCell ⟨c, 0, none⟩ (.map (some w.heap.size))) (.cells setCells 90)
  have hne := Nat.ne_of_gt (lt_of m2)
  rw [World.size_setCell] at s3 hne
  have c4 := cell_of (j := 0) k3 rfl
  have u2 := upd_old (.pointer (some ⟨W1.heap.size, 0, none⟩)) m3 chkE (findE_E _ 0 []) rfl rfl stayE
  have T4 := T3.put (m := w.heap.size) (by omega) m3 (.map ((#[].push ⟨KE, .pointer none, 0⟩ : Array MapEntry).modify 0 fun e => { e with key := KE, val := .pointer (some ⟨W1.heap.size, 0, none⟩) }) (0 + 1))
  have m4 := put_same (.map ((#[].push ⟨KE, .pointer none, 0⟩ : Array MapEntry).modify 0 fun e => { e with key := KE, val := .pointer (some ⟨W1.heap.size, 0, none⟩) }) (0 + 1)) m3
  have k4 := (put_ne (m := w.heap.size) (.map ((#[].push ⟨KE, .pointer none, 0⟩ : Array MapEntry).modify 0 fun e => { e with key := KE, val := .pointer (some ⟨W1.heap.size, 0, none⟩) }) (0 + 1)) (Nat.ne_of_lt hl)).trans k3
  have s4 := (put_ne (m := w.heap.size) (.map ((#[].push ⟨KE, .pointer none, 0⟩ : Array MapEntry).modify 0 fun e => { e with key := KE, val := .pointer (some ⟨W1.heap.size, 0, none⟩) }) (0 + 1)) hne).trans s3
  have HH : ∀ W3 g, W3.heap[w.heap.size]? = some (.map (#[eE (.pointer (some ⟨g, 0, none⟩)) 0]) 1) → W3.heap[c]? = some (.cells #[.map (some w.heap.size), .map none] 44 (0, 0)) → W3.heap[g]? = some (.cells setCells 90 (0, 0)) → Turned B w W3 → (∃ b, Ending.returned (.pointer (some ⟨g, 0, none⟩)) = .returned (.pointer (some ⟨b, 0, none⟩)) ∧ W3.heap[b]? = some (.cells setCells 90 (0, 0)) ∧ CacheAt B W3 c .e (.pointer (some ⟨b, 0, none⟩)) ∧ Turned B w W3) :=
    fun W3 g a b d t => ⟨g, rfl, d, ⟨hB, .inr ⟨by simp, w.heap.size, by omega, Nat.ne_of_gt hl, b, a⟩, fun _ => ⟨g, rfl, d⟩⟩, t⟩
  clear T0 T1 T2 T3 hm0 m1 m2 m3 k1 k2 h1 s3 hne
  have n0 := numE
  have n1 := nilT
  have mk := mkM
  go_enter Tryr.func54, Tryr.ntmps54
  go_wp2
  go_ret
  exact HH _ _ m4 k4 s4 T4
theorem ms_a_A {B c : Nat} {w : World} {v k : Value} (h : CacheAt B w c .a v) :
    Calls Tryr.prog 54 #[.pointer (some ⟨c, 0, none⟩), KA, k] w fun e w' => e = .returned (.pointer none) ∧ w' = w := by
  obtain ⟨_, h1, _⟩ := h
  obtain ⟨m, _, _, hc, hm⟩ := (h1.resolve_left (by simp)).2
  have c1 := cell_of (j := 0) hc rfl
  have l1 := look hm chkA _ (findA_A 0 [])
  clear hm hc h1
  have n1 := nilF
  go_enter Tryr.func54, Tryr.ntmps54
  go_wp2
  go_ret
  exact ⟨rfl, rfl⟩
theorem ms_ae_A {B c : Nat} {w : World} {v k : Value} (h : CacheAt B w c .ae v) :
    Calls Tryr.prog 54 #[.pointer (some ⟨c, 0, none⟩), KA, k] w fun e w' => e = .returned (.pointer none) ∧ w' = w := by
  obtain ⟨_, h1, _⟩ := h
  obtain ⟨m, _, _, hc, hm⟩ := (h1.resolve_left (by simp)).2
  have c1 := cell_of (j := 0) hc rfl
  have l1 := look hm chkA _ (findA_A 0 [eE v 1])
  clear hm hc h1
  have n1 := nilF
  go_enter Tryr.func54, Tryr.ntmps54
  go_wp2
  go_ret
  exact ⟨rfl, rfl⟩
theorem ms_ea_A {B c : Nat} {w : World} {v k : Value} (h : CacheAt B w c .ea v) :
    Calls Tryr.prog 54 #[.pointer (some ⟨c, 0, none⟩), KA, k] w fun e w' => e = .returned (.pointer none) ∧ w' = w := by
  obtain ⟨_, h1, _⟩ := h
  obtain ⟨m, _, _, hc, hm⟩ := (h1.resolve_left (by simp)).2
  have c1 := cell_of (j := 0) hc rfl
  have l1 := look hm chkA _ (findA_EA v 0 1)
  clear hm hc h1
  have n1 := nilF
  go_enter Tryr.func54, Tryr.ntmps54
  go_wp2
  go_ret
  exact ⟨rfl, rfl⟩
theorem ms_e_E {B c : Nat} {w : World} {v k : Value} (h : CacheAt B w c .e v) :
    Calls Tryr.prog 54 #[.pointer (some ⟨c, 0, none⟩), KE, k] w fun e w' => e = .returned v ∧ w' = w := by
  obtain ⟨_, h1, _⟩ := h
  obtain ⟨m, _, _, hc, hm⟩ := (h1.resolve_left (by simp)).2
  have c1 := cell_of (j := 0) hc rfl
  have l1 := look hm chkE _ (findE_E v 0 [])
  clear hm hc h1
  have n1 := nilF
  go_enter Tryr.func54, Tryr.ntmps54
  go_wp2
  go_ret
  exact ⟨rfl, rfl⟩
theorem ms_ea_E {B c : Nat} {w : World} {v k : Value} (h : CacheAt B w c .ea v) :
    Calls Tryr.prog 54 #[.pointer (some ⟨c, 0, none⟩), KE, k] w fun e w' => e = .returned v ∧ w' = w := by
  obtain ⟨_, h1, _⟩ := h
  obtain ⟨m, _, _, hc, hm⟩ := (h1.resolve_left (by simp)).2
  have c1 := cell_of (j := 0) hc rfl
  have l1 := look hm chkE _ (findE_E v 0 [eA 1])
  clear hm hc h1
  have n1 := nilF
  go_enter Tryr.func54, Tryr.ntmps54
  go_wp2
  go_ret
  exact ⟨rfl, rfl⟩
theorem ms_ae_E {B c : Nat} {w : World} {v k : Value} (h : CacheAt B w c .ae v) :
    Calls Tryr.prog 54 #[.pointer (some ⟨c, 0, none⟩), KE, k] w fun e w' => e = .returned v ∧ w' = w := by
  obtain ⟨_, h1, _⟩ := h
  obtain ⟨m, _, _, hc, hm⟩ := (h1.resolve_left (by simp)).2
  have c1 := cell_of (j := 0) hc rfl
  have l1 := look hm chkE _ (findE_AE v 0 1)
  clear hm hc h1
  have n1 := nilF
  go_enter Tryr.func54, Tryr.ntmps54
  go_wp2
  go_ret
  exact ⟨rfl, rfl⟩
theorem ms_e_A {B c : Nat} {w : World} {v k : Value} (h : CacheAt B w c .e v) :
    Calls Tryr.prog 54 #[.pointer (some ⟨c, 0, none⟩), KA, k] w fun e w' => e = .returned (.pointer none) ∧ CacheAt B w' c .ea v ∧ Turned B w w' := by
  obtain ⟨hB, h1, hv⟩ := h
  obtain ⟨m, hBm, hmc, hc, hm⟩ := (h1.resolve_left (by simp)).2
  obtain ⟨b, rfl, hs⟩ := hv rfl
  have c1 := cell_of (j := 0) hc rfl
  have l1 := look hm chkA _ (findA_E (.pointer (some ⟨b, 0, none⟩)) 0)
  have u1 := upd_new (.pointer none) hm chkA (findA_E (.pointer (some ⟨b, 0, none⟩)) 0)
  have T1 := (Turned.refl B w).put hBm hm (.map ((#[eE (.pointer (some ⟨b, 0, none⟩)) 0] : Array MapEntry).push ⟨KA, .pointer none, 1⟩) (1 + 1))
  have m1 := put_same (.map ((#[eE (.pointer (some ⟨b, 0, none⟩)) 0] : Array MapEntry).push ⟨KA, .pointer none, 1⟩) (1 + 1)) hm
  have k1 := (put_ne (.map ((#[eE (.pointer (some ⟨b, 0, none⟩)) 0] : Array MapEntry).push ⟨KA, .pointer none, 1⟩) (1 + 1)) hmc.symm).trans hc
  have s1 := T1.keep _ _ hs (by simp [Fixed])
  have HH : ∀ W3, W3.heap[m]? = some (.map (#[eE (.pointer (some ⟨b, 0, none⟩)) 0, eA 1]) 2) → W3.heap[c]? = some (.cells #[.map (some m), .map none] 44 (0, 0)) → W3.heap[b]? = some (.cells setCells 90 (0, 0)) → Turned B w W3 → (CacheAt B W3 c .ea (.pointer (some ⟨b, 0, none⟩)) ∧ Turned B w W3) :=
    fun W3 a d s t => ⟨⟨hB, .inr ⟨by simp, m, hBm, hmc, d, a⟩, fun _ => ⟨b, rfl, s⟩⟩, t⟩
  clear hm hc h1 hs
  have n1 := nilF
  have n0 := numA
  go_enter Tryr.func54, Tryr.ntmps54
  go_wp2
  go_ret
  exact ⟨rfl, HH _ m1 k1 s1 T1⟩
theorem ms_a_E {B c : Nat} {w : World} {v : Value} (h : CacheAt B w c .a v) :
    Calls Tryr.prog 54 #[.pointer (some ⟨c, 0, none⟩), KE, .int .u64 20] w fun e w' => ∃ b, e = .returned (.pointer (some ⟨b, 0, none⟩)) ∧ w'.heap[b]? = some (.cells setCells 90 (0, 0)) ∧ CacheAt B w' c .ae (.pointer (some ⟨b, 0, none⟩)) ∧ Turned B w w' := by
  obtain ⟨hB, h1, _⟩ := h
  obtain ⟨m, hBm, hmc, hc, hm⟩ := (h1.resolve_left (by simp)).2
  have c1 := cell_of (j := 0) hc rfl
  have hl := lt_of hm
  have hlc := lt_of hc
  have l1 := look hm chkE _ (findE_A 0)
  have m0 := h_old (.cells setCells 90) hm
  have k0 := h_old (.cells setCells 90) hc
  have s0 := h_new w (.cells setCells 90)
  have c2 := cell_of (j := 0) k0 rfl
  have u1 := upd_new (.pointer (some ⟨w.heap.size, 0, none⟩)) m0 chkE (findE_A 0)
  have T1 := ((Turned.refl B w).alloc (by omega) (.cells setCells 90)).put hBm m0 (.map ((#[eA 0] : Array MapEntry).push ⟨KE, .pointer (some ⟨w.heap.size, 0, none⟩), 1⟩) (1 + 1))
  have m1 := put_same (.map ((#[eA 0] : Array MapEntry).push ⟨KE, .pointer (some ⟨w.heap.size, 0, none⟩), 1⟩) (1 + 1)) m0
  have k1 := (put_ne (.map ((#[eA 0] : Array MapEntry).push ⟨KE, .pointer (some ⟨w.heap.size, 0, none⟩), 1⟩) (1 + 1)) hmc.symm).trans k0
  have s1 := (put_ne (.map ((#[eA 0] : Array MapEntry).push ⟨KE, .pointer (some ⟨w.heap.size, 0, none⟩), 1⟩) (1 + 1)) (Nat.ne_of_gt hl)).trans s0
  have HH : ∀ W3 g, W3.heap[m]? = some (.map (#[eA 0, eE (.pointer (some ⟨g, 0, none⟩)) 1]) 2) → W3.heap[c]? = some (.cells #[.map (some m), .map none] 44 (0, 0)) → W3.heap[g]? = some (.cells setCells 90 (0, 0)) → Turned B w W3 → (∃ b, Ending.returned (.pointer (some ⟨g, 0, none⟩)) = .returned (.pointer (some ⟨b, 0, none⟩)) ∧ W3.heap[b]? = some (.cells setCells 90 (0, 0)) ∧ CacheAt B W3 c .ae (.pointer (some ⟨b, 0, none⟩)) ∧ Turned B w W3) :=
    fun W3 g a b d t => ⟨g, rfl, d, ⟨hB, .inr ⟨by simp, m, hBm, hmc, b, a⟩, fun _ => ⟨g, rfl, d⟩⟩, t⟩
  clear hm hc h1 m0 k0 s0 hl
  have n1 := nilF
  have n0 := numE
  go_enter Tryr.func54, Tryr.ntmps54
  go_wp2
  go_ret
  exact HH _ _ m1 k1 s1 T1
end Go.Proofs.YthlmcnlkmgeohaaReflFmt.nat
