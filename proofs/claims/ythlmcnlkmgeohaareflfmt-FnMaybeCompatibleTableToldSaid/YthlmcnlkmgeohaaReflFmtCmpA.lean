/-
Whether a nature is the type any, or unknown, over this cut: for every nature whose kind is no interface, and for any and error with whatever cache. No condition.
-/
import Derived.Test.YthlmcnlkmgeohaaReflFmtMapC
import Derived.Deep.RegionWith
namespace Go.Proofs.YthlmcnlkmgeohaaReflFmt.nat
open Go Go.Proofs Go.RowKit
set_option maxRecDepth 100000
set_option maxHeartbeats 1000000
/-- a nature, as the walks speak of it: its type's number, its kind, nil, integer, float -/
structure Nt where
  ty : Option Nat
  k : Nat
  nl : Bool
  i : Bool
  f : Bool
noncomputable def tyV : Option Nat → Value
  | none => .nilIface
  | some t => (.iface 76 (.pointer (some ⟨0, t, none⟩)))
/-- the nature n stands in block b -/
def Has (w : World) (b : Nat) (n : Nt) (td : Value) : Prop := w.heap[b]? = some (.cells #[tyV n.ty, .int .u64 n.k, td, .pointer none, .bool n.nl, .bool false, .bool false, .bool n.i, .bool n.f] 51)
/-- a kind 'interface' is any's or error's -/
structure Fine (n : Nt) (td : Value) : Prop where
  iface : n.k = 20 → (n.ty = some 20 ∨ n.ty = some 25) ∧ td = .pointer none
  any : n.ty = some 20 → n.k = 20
def anyB (n : Nt) : Bool := n.ty == some 20
def unkB (n : Nt) : Bool := (n.ty.isNone && !n.nl) || anyB n
theorem msA {B c : Nat} {w : World} {s : MS} {v : Value} (k : Value) (h : CacheAt B w c s v) :
    Calls Tryr.prog 54 #[.pointer (some ⟨c, 0, none⟩), KA, k] w fun e w' => e = .returned (.pointer none) ∧ ∃ s' v', CacheAt B w' c s' v' ∧ Turned B w w' := by
  cases s with
  | no => exact (ms_no_A h).mono fun e w' ⟨he, a, b⟩ => ⟨he, _, _, a, b⟩
  | a => exact (ms_a_A h).mono fun e w' ⟨he, hw⟩ => ⟨he, _, _, hw ▸ h, hw ▸ Turned.refl _ _⟩
  | e => exact (ms_e_A h).mono fun e w' ⟨he, a, b⟩ => ⟨he, _, _, a, b⟩
  | ae => exact (ms_ae_A h).mono fun e w' ⟨he, hw⟩ => ⟨he, _, _, hw ▸ h, hw ▸ Turned.refl _ _⟩
  | ea => exact (ms_ea_A h).mono fun e w' ⟨he, hw⟩ => ⟨he, _, _, hw ▸ h, hw ▸ Turned.refl _ _⟩
theorem msE {B c : Nat} {w : World} {s : MS} {v : Value} (h : CacheAt B w c s v) :
    Calls Tryr.prog 54 #[.pointer (some ⟨c, 0, none⟩), KE, .int .u64 20] w fun e w' => ∃ b, e = .returned (.pointer (some ⟨b, 0, none⟩)) ∧ w'.heap[b]? = some (.cells setCells 90 (0, 0)) ∧ ∃ s' v', CacheAt B w' c s' v' ∧ Turned B w w' := by
  cases s with
  | no => exact (ms_no_E h).mono fun e w' ⟨b, he, hb, a, t⟩ => ⟨b, he, hb, _, _, a, t⟩
  | a => exact (ms_a_E h).mono fun e w' ⟨b, he, hb, a, t⟩ => ⟨b, he, hb, _, _, a, t⟩
  | e =>
    obtain ⟨b, rfl, hb⟩ := h.set rfl
    exact (ms_e_E h).mono fun e w' ⟨he, hw⟩ => ⟨b, he, hw ▸ hb, _, _, hw ▸ h, hw ▸ Turned.refl _ _⟩
  | ae =>
    obtain ⟨b, rfl, hb⟩ := h.set rfl
    exact (ms_ae_E h).mono fun e w' ⟨he, hw⟩ => ⟨b, he, hw ▸ hb, _, _, hw ▸ h, hw ▸ Turned.refl _ _⟩
  | ea =>
    obtain ⟨b, rfl, hb⟩ := h.set rfl
    exact (ms_ea_E h).mono fun e w' ⟨he, hw⟩ => ⟨b, he, hw ▸ hb, _, _, hw ▸ h, hw ▸ Turned.refl _ _⟩
theorem CacheAt.drew {B c : Nat} {w : World} {s : MS} {v : Value} (h : CacheAt B w c s v) : CacheAt B w.drew c s v := ⟨h.base, h.map, h.set⟩
theorem Turned.undrew {B : Nat} {w w' : World} (h : Turned B w.drew w') : Turned B w w' := ⟨⟨h.below.os, h.below.tape, h.below.output, h.below.size, h.below.block⟩, h.keep⟩
theorem fixedN (n : Nt) (td : Value) : Fixed (.cells #[tyV n.ty, .int .u64 n.k, td, .pointer none, .bool n.nl, .bool false, .bool false, .bool n.i, .bool n.f] 51) := by simp [Fixed]
theorem Has.kept {B : Nat} {w w' : World} {b : Nat} {n : Nt} {td : Value} (h : Has w b n td) (t : Turned B w w') : Has w' b n td := t.keep _ _ h (fixedN n td)
theorem getN_A {B c b : Nat} {w : World} {s : MS} {v : Value} {n : Nt} (hc : CacheAt B w c s v) (h : Has w b n (.pointer none)) (hn : n.ty = some 20) :
    Calls Tryr.prog 53 #[.pointer (some ⟨b, 0, none⟩), .pointer (some ⟨c, 0, none⟩)] w fun e w' => e = .returned (.pointer none) ∧ ∃ s' v', CacheAt B w' c s' v' ∧ Turned B w w' := by
  have c0 : w.cell? ⟨b, 0, none⟩ = some KA := by
    have := cell_of (j := 0) h rfl
    rwa [hn] at this
  have c1 := cell_of (j := 1) h rfl
  have c2 := cell_of (j := 2) h rfl
  have m := fun k => msA (w := w.drew) k hc.drew
  go_enter Tryr.func53, Tryr.ntmps53
  go_wp2
  go_region_with (first | (go_at_call 54; refine (m _).mono ?_; rintro e w1 ⟨rfl, s1, v1, hc1, ht1⟩; have d2 := cell_of (j := 2) (h.kept ht1.undrew) rfl))
  all_goals
    clear c0 c1 c2 m
    go_wp2
    go_ret
    exact ⟨rfl, s1, v1, hc1, ht1.undrew⟩
theorem getN_E {B c b : Nat} {w : World} {s : MS} {v : Value} {n : Nt} (hc : CacheAt B w c s v) (h : Has w b n (.pointer none)) (hn : n.ty = some 25) (hk : n.k = 20) :
    Calls Tryr.prog 53 #[.pointer (some ⟨b, 0, none⟩), .pointer (some ⟨c, 0, none⟩)] w fun e w' => ∃ g, e = .returned (.pointer (some ⟨g, 0, none⟩)) ∧ w'.heap[g]? = some (.cells setCells 90 (0, 0)) ∧ ∃ s' v', CacheAt B w' c s' v' ∧ Turned B w w' := by
  have c0 : w.cell? ⟨b, 0, none⟩ = some KE := by
    have := cell_of (j := 0) h rfl
    rwa [hn] at this
  have c1 : w.cell? ⟨b, 1, none⟩ = some (.int .u64 20) := by
    have := cell_of (j := 1) h rfl
    rwa [hk] at this
  have c2 := cell_of (j := 2) h rfl
  have m := msE (w := w.drew) hc.drew
  go_enter Tryr.func53, Tryr.ntmps53
  go_wp2
  go_region_with (first | (go_at_call 54; refine m.mono ?_; rintro e w1 ⟨g, rfl, hg, s1, v1, hc1, ht1⟩; have d2 := cell_of (j := 2) (h.kept ht1.undrew) rfl))
  all_goals
    clear c0 c1 c2 m
    go_wp2
    go_ret
    exact ⟨g, rfl, hg, s1, v1, hc1, ht1.undrew⟩
theorem num_A {B c b : Nat} {w : World} {s : MS} {v : Value} {n : Nt} (hc : CacheAt B w c s v) (h : Has w b n (.pointer none)) (hn : n.ty = some 20) :
    Calls Tryr.prog 47 #[.pointer (some ⟨b, 0, none⟩), .pointer (some ⟨c, 0, none⟩)] w fun e w' => e = .returned (.int .i64 0) ∧ ∃ s' v', CacheAt B w' c s' v' ∧ Turned B w w' := by
  go_enter Tryr.func47, Tryr.ntmps47
  go_wp2_with fail
  refine (getN_A hc h hn).mono ?_
  rintro e w1 ⟨rfl, s1, v1, hc1, ht1⟩
  go_wp2
  go_ret
  exact ⟨rfl, s1, v1, hc1, ht1⟩
theorem num_E {B c b : Nat} {w : World} {s : MS} {v : Value} {n : Nt} (hc : CacheAt B w c s v) (h : Has w b n (.pointer none)) (hn : n.ty = some 25) (hk : n.k = 20) :
    Calls Tryr.prog 47 #[.pointer (some ⟨b, 0, none⟩), .pointer (some ⟨c, 0, none⟩)] w fun e w' => e = .returned (.int .i64 1) ∧ ∃ s' v', CacheAt B w' c s' v' ∧ Turned B w w' := by
  go_enter Tryr.func47, Tryr.ntmps47
  go_wp2_with fail
  refine (getN_E hc h hn hk).mono ?_
  rintro e w1 ⟨g, rfl, hg, s1, v1, hc1, ht1⟩
  have g3 := cell_of (j := 3) hg rfl
  go_wp2
  go_ret
  exact ⟨rfl, s1, v1, hc1, ht1⟩
theorem isAny {B c b : Nat} {w : World} {s : MS} {v td : Value} {n : Nt} (hc : CacheAt B w c s v) (h : Has w b n td) (ok : Fine n td) :
    Calls Tryr.prog 33 #[.pointer (some ⟨b, 0, none⟩), .pointer (some ⟨c, 0, none⟩)] w fun e w' => e = .returned (.bool (anyB n)) ∧ ∃ s' v', CacheAt B w' c s' v' ∧ Turned B w w' := by
  obtain ⟨ty, k, nl, i, f⟩ := n
  by_cases hk : k = 20
  · subst hk
    obtain ⟨hty, rfl⟩ := ok.iface rfl
    have c1 : w.cell? ⟨b, 1, none⟩ = some (.int .u64 20) := cell_of (j := 1) h rfl
    rcases hty with hty | hty
    · simp only at hty
      subst hty
      have c0 : w.cell? ⟨b, 0, none⟩ = some KA := cell_of (j := 0) h rfl
      have hA : anyB ⟨some 20, 20, nl, i, f⟩ = true := rfl
      rw [hA]
      have key := num_A hc h rfl
      go_enter Tryr.func33, Tryr.ntmps33
      go_wp2_with fail
      refine key.mono ?_
      rintro e w1 ⟨rfl, s1, v1, hc1, ht1⟩
      go_wp2
      go_ret
      exact ⟨rfl, s1, v1, hc1, ht1⟩
    · simp only at hty
      subst hty
      have c0 : w.cell? ⟨b, 0, none⟩ = some KE := cell_of (j := 0) h rfl
      have hA : anyB ⟨some 25, 20, nl, i, f⟩ = false := rfl
      rw [hA]
      have key := num_E hc h rfl rfl
      go_enter Tryr.func33, Tryr.ntmps33
      go_wp2_with fail
      refine key.mono ?_
      rintro e w1 ⟨rfl, s1, v1, hc1, ht1⟩
      go_wp2
      go_ret
      exact ⟨rfl, s1, v1, hc1, ht1⟩
  · have hA : anyB ⟨ty, k, nl, i, f⟩ = false := by
      cases hh : anyB ⟨ty, k, nl, i, f⟩ with
      | false => rfl
      | true => exact absurd (ok.any (by simpa [anyB] using hh)) hk
    have hk2 : ((k : Int) == 20) = false := by rw [beq_eq_false_iff_ne]; omega
    have c1 : w.cell? ⟨b, 1, none⟩ = some (.int .u64 k) := cell_of (j := 1) h rfl
    rw [hA]
    clear ok hA hk
    cases ty with
    | none =>
      have c0 : w.cell? ⟨b, 0, none⟩ = some .nilIface := cell_of (j := 0) h rfl
      clear h
      go_enter Tryr.func33, Tryr.ntmps33
      go_wp2
      go_ret
      exact ⟨rfl, s, v, hc, Turned.refl _ _⟩
    | some t =>
      have c0 : w.cell? ⟨b, 0, none⟩ = some (.iface 76 (.pointer (some ⟨0, t, none⟩))) := cell_of (j := 0) h rfl
      clear h
      go_enter Tryr.func33, Tryr.ntmps33
      go_wp2
      go_ret
      exact ⟨rfl, s, v, hc, Turned.refl _ _⟩
theorem isUnknown {B c b : Nat} {w : World} {s : MS} {v td : Value} {n : Nt} (hc : CacheAt B w c s v) (h : Has w b n td) (ok : Fine n td) :
    Calls Tryr.prog 28 #[.pointer (some ⟨b, 0, none⟩), .pointer (some ⟨c, 0, none⟩)] w fun e w' => e = .returned (.bool (unkB n)) ∧ ∃ s' v', CacheAt B w' c s' v' ∧ Turned B w w' := by
  have key := isAny hc h ok
  obtain ⟨ty, k, nl, i, f⟩ := n
  cases ty with
  | some t =>
    have c0 : w.cell? ⟨b, 0, none⟩ = some (.iface 76 (.pointer (some ⟨0, t, none⟩))) := cell_of (j := 0) h rfl
    clear h
    go_enter Tryr.func28, Tryr.ntmps28
    go_wp2_with fail
    refine key.mono ?_
    rintro e w1 ⟨rfl, s1, v1, hc1, ht1⟩
    go_wp2
    go_ret
    exact ⟨by simp [unkB], s1, v1, hc1, ht1⟩
  | none =>
    have c0 : w.cell? ⟨b, 0, none⟩ = some .nilIface := cell_of (j := 0) h rfl
    have c4 : w.cell? ⟨b, 4, none⟩ = some (.bool nl) := cell_of (j := 4) h rfl
    clear h
    cases nl
    · clear key
      go_enter Tryr.func28, Tryr.ntmps28
      go_wp2
      go_ret
      exact ⟨by simp [unkB], s, v, hc, Turned.refl _ _⟩
    · skip
      go_enter Tryr.func28, Tryr.ntmps28
      go_wp2_with fail
      refine key.mono ?_
      rintro e w1 ⟨rfl, s1, v1, hc1, ht1⟩
      go_wp2
      go_ret
      exact ⟨by simp [unkB], s1, v1, hc1, ht1⟩
end Go.Proofs.YthlmcnlkmgeohaaReflFmt.nat
