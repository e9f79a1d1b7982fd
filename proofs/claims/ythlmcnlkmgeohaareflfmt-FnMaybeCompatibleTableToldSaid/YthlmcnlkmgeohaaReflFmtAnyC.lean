/-
The table of the seventeen natures and of the checks that each passes; zzSatisfies, zzUnknown, and MaybeCompatible over the table. No condition.
-/
import Derived.Test.YthlmcnlkmgeohaaReflFmtAnyB
namespace Go.Proofs.YthlmcnlkmgeohaaReflFmt.nat
open Go Go.Proofs Go.RowKit
set_option maxRecDepth 100000
set_option maxHeartbeats 1000000
def nt : Nat → Nt
  | 0 => ⟨none, 0, false, false, false⟩
  | 1 => ⟨none, 0, true, false, false⟩
  | 2 => ⟨some 3, 2, false, true, false⟩
  | 3 => ⟨some 2, 6, false, true, false⟩
  | 4 => ⟨some 5, 8, false, true, false⟩
  | 5 => ⟨some 27, 14, false, false, true⟩
  | 6 => ⟨some 9, 24, false, false, false⟩
  | 7 => ⟨some 4, 1, false, false, false⟩
  | 8 => ⟨some 62, 6, false, false, false⟩
  | 9 => ⟨some 65, 25, false, false, false⟩
  | 10 => ⟨some 66, 23, false, false, false⟩
  | 11 => ⟨some 67, 23, false, false, false⟩
  | 12 => ⟨some 20, 20, false, false, false⟩
  | 13 => ⟨some 25, 20, false, false, false⟩
  | 14 => ⟨some 71, 21, false, false, false⟩
  | 15 => ⟨some 72, 2, false, false, false⟩
  | _ => ⟨some 73, 22, false, false, false⟩
theorem fine (a : Nat) (ha : a < 17) (td : Value) (h9 : a ≠ 9 → td = .pointer none) : Fine (nt a) td := by
  have h : a = 0 ∨ a = 1 ∨ a = 2 ∨ a = 3 ∨ a = 4 ∨ a = 5 ∨ a = 6 ∨ a = 7 ∨ a = 8 ∨ a = 9 ∨ a = 10 ∨ a = 11 ∨ a = 12 ∨ a = 13 ∨ a = 14 ∨ a = 15 ∨ a = 16 := by omega
  rcases h with rfl | rfl | rfl | rfl | rfl | rfl | rfl | rfl | rfl | rfl | rfl | rfl | rfl | rfl | rfl | rfl | rfl
  · exact ⟨fun h => absurd h (by decide), fun h => absurd h (by decide)⟩
  · exact ⟨fun h => absurd h (by decide), fun h => absurd h (by decide)⟩
  · exact ⟨fun h => absurd h (by decide), fun h => absurd h (by decide)⟩
  · exact ⟨fun h => absurd h (by decide), fun h => absurd h (by decide)⟩
  · exact ⟨fun h => absurd h (by decide), fun h => absurd h (by decide)⟩
  · exact ⟨fun h => absurd h (by decide), fun h => absurd h (by decide)⟩
  · exact ⟨fun h => absurd h (by decide), fun h => absurd h (by decide)⟩
  · exact ⟨fun h => absurd h (by decide), fun h => absurd h (by decide)⟩
  · exact ⟨fun h => absurd h (by decide), fun h => absurd h (by decide)⟩
  · exact ⟨fun h => absurd h (by decide), fun h => absurd h (by decide)⟩
  · exact ⟨fun h => absurd h (by decide), fun h => absurd h (by decide)⟩
  · exact ⟨fun h => absurd h (by decide), fun h => absurd h (by decide)⟩
  · exact ⟨fun _ => ⟨.inl rfl, h9 (by decide)⟩, fun _ => rfl⟩
  · exact ⟨fun _ => ⟨.inr rfl, h9 (by decide)⟩, fun h => absurd h (by decide)⟩
  · exact ⟨fun h => absurd h (by decide), fun h => absurd h (by decide)⟩
  · exact ⟨fun h => absurd h (by decide), fun h => absurd h (by decide)⟩
  · exact ⟨fun h => absurd h (by decide), fun h => absurd h (by decide)⟩
theorem CacheAt.grow {B c : Nat} {w w' : World} {s : MS} {v : Value} (h : CacheAt B w c s v) (k : Below w.heap.size w w') : CacheAt B w' c s v := h.heap fun b _ hb => (k.block b (lt_of hb)).trans hb
theorem Has.grow {w w' : World} {b : Nat} {n : Nt} {td : Value} (h : Has w b n td) (k : Below w.heap.size w w') : Has w' b n td := (k.block b (lt_of h)).trans h
theorem Has.alloc {w : World} {b : Nat} {n : Nt} {td : Value} (o : Obj) (h : Has w b n td) : Has (w.alloc o) b n td := h_old o h
def satZ (i : Nat) (z : Int) : Bool :=
  if z = 1 then i == 7 else if z = 2 then i == 6 else if z = 3 then i == 2 || i == 3 || i == 4 else if z = 4 then i == 2 || i == 3 || i == 4 || i == 5 else if z = 5 then i == 14 else if z = 6 then i == 10 || i == 11 else if z = 7 then i == 9 else i == 8
def unkZ (i : Nat) : Bool := i == 0 || i == 12
theorem sat_eq : ∀ (i : Fin 17) (q : Fin 8), satB (nt i.val) ((q.val : Int) + 1) = satZ i.val ((q.val : Int) + 1) := by decide +kernel
theorem unk_eq : ∀ i : Fin 17, unkB (nt i.val) = unkZ i.val := by decide +kernel
theorem unkC (i : Nat) (hi : i < 17) (w : World) : Calls Tryr.prog 9 #[.int .i64 i] w fun e w' => e = .returned (.bool (unkZ i)) ∧ w' = w := by
  have h : i = 0 ∨ i = 1 ∨ i = 2 ∨ i = 3 ∨ i = 4 ∨ i = 5 ∨ i = 6 ∨ i = 7 ∨ i = 8 ∨ i = 9 ∨ i = 10 ∨ i = 11 ∨ i = 12 ∨ i = 13 ∨ i = 14 ∨ i = 15 ∨ i = 16 := by omega
  rcases h with rfl | rfl | rfl | rfl | rfl | rfl | rfl | rfl | rfl | rfl | rfl | rfl | rfl | rfl | rfl | rfl | rfl
  all_goals
    go_enter Tryr.func9, Tryr.ntmps9
    go_wp2
    go_ret
    exact ⟨rfl, rfl⟩
theorem satC (i : Nat) (hi : i < 17) (q : Nat) (hq : q < 8) (w : World) : Calls Tryr.prog 6 #[.int .i64 i, .int .i64 ((q : Int) + 1)] w fun e w' => e = .returned (.bool (satZ i ((q : Int) + 1))) ∧ w' = w := by
  have h : i = 0 ∨ i = 1 ∨ i = 2 ∨ i = 3 ∨ i = 4 ∨ i = 5 ∨ i = 6 ∨ i = 7 ∨ i = 8 ∨ i = 9 ∨ i = 10 ∨ i = 11 ∨ i = 12 ∨ i = 13 ∨ i = 14 ∨ i = 15 ∨ i = 16 := by omega
  have h2 : q = 0 ∨ q = 1 ∨ q = 2 ∨ q = 3 ∨ q = 4 ∨ q = 5 ∨ q = 6 ∨ q = 7 := by omega
  rcases h2 with rfl | rfl | rfl | rfl | rfl | rfl | rfl | rfl
  all_goals
    rcases h with rfl | rfl | rfl | rfl | rfl | rfl | rfl | rfl | rfl | rfl | rfl | rfl | rfl | rfl | rfl | rfl | rfl
  all_goals
    go_enter Tryr.func6, Tryr.ntmps6
    go_wp2
    go_ret
    exact ⟨rfl, rfl⟩
theorem any_sat (i : Nat) (hi : i < 17) (zs : List Int) (hz : ∀ z ∈ zs, 1 ≤ z ∧ z ≤ 8) : zs.any (satB (nt i)) = zs.any (satZ i) := by
  induction zs with
  | nil => rfl
  | cons z r ih =>
    have hz0 := hz z (List.mem_cons_self ..)
    obtain ⟨q, rfl, hq⟩ : ∃ q : Nat, z = (q : Int) + 1 ∧ q < 8 := ⟨(z - 1).toNat, by omega, by omega⟩
    rw [List.any_cons, List.any_cons, sat_eq ⟨i, hi⟩ ⟨q, hq⟩, ih (fun y hy => hz y (List.mem_cons_of_mem _ hy))]
def mayZ (i j : Nat) (zs : List Int) : Bool := (unkZ i && unkZ j) || (unkZ i && zs.any (satZ j)) || (unkZ j && zs.any (satZ i))
/-- MaybeCompatible over the table -/
theorem mayN {B c b : Nat} {w : World} {s : MS} {v td td' : Value} (i j : Nat) (hi : i < 17) (hj : j < 17) (hc : CacheAt B w c s v) (h : Has w b (nt i) td) (h9 : i ≠ 9 → td = .pointer none) (h9' : j ≠ 9 → td' = .pointer none) (hB : B ≤ w.heap.size)
    (g cap : Nat) (zs : List Int) (hz : ∀ z ∈ zs, 1 ≤ z ∧ z ≤ 8) (hlen : (zs.length : Int) ≤ 9223372036854775807) (tc : Nat) (hct : ∃ cs, w.heap[g]? = some (.cells cs tc (0, 0)) ∧ tc ≠ 44 ∧ ∀ k, k < zs.length → cs[k]? = some (.int .i64 (zs.getD k 0))) :
    Calls Tryr.prog 8 #[.pointer (some ⟨b, 0, none⟩), .pointer (some ⟨c, 0, none⟩), (.agg #[tyV (nt j).ty, .int .u64 (nt j).k, td', .pointer none, .bool (nt j).nl, .bool false, .bool false, .bool (nt j).i, .bool (nt j).f]), .slice (some ⟨g, 0, none⟩) zs.length cap] w fun e w' => e = .returned (.bool (mayZ i j zs)) ∧ (∃ s' v', CacheAt B w' c s' v') ∧ Turned B w w' := by
  have k := maybe hc h (fine i hi td h9) (fine j hj td' h9') hB g cap zs hz hlen tc hct
  have e : mayB (nt i) (nt j) zs = mayZ i j zs := by
    unfold mayB mayZ
    rw [unk_eq ⟨i, hi⟩, unk_eq ⟨j, hj⟩, any_sat i hi zs hz, any_sat j hj zs hz]
  rw [e] at k
  exact k
theorem storeT (o : Option Nat) (a : Addr) (w : World) : (store a (tyV o)).run Tryr.prog w = stored Tryr.prog w a (tyV o) .plain := run_store _ w a _ _ (by cases o <;> rfl)
end Go.Proofs.YthlmcnlkmgeohaaReflFmt.nat
