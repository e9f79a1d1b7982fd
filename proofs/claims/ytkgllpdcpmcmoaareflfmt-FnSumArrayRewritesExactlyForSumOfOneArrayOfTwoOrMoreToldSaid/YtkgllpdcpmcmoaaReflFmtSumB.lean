/-
The fold of a sum: a right-nested chain. No condition.
-/
import Derived.Test.YtkgllpdcpmcmoaaReflFmtSumC
import Derived.Deep.RegionWith
namespace Go.Proofs.YtkgllpdcpmcmoaaReflFmt.opt
open Go Go.Proofs Go.RowKit
set_option maxRecDepth 100000
set_option maxHeartbeats 20000000
/-- the chain of k + 1 sums over the elements from off on: its top at r, its tops' blocks rising from lo -/
def Chain (w : World) (g lo : Nat) : Nat → Nat → Nat → Nat → Prop
  | 0, off, u, r => lo ≤ r ∧ w.heap[r]? = some (.cells (nodeC u #[(.string ⟨#[43]⟩), (.iface 59 (.pointer (some ⟨g + off, 0, none⟩))), (.iface 59 (.pointer (some ⟨g + (off + 1), 0, none⟩)))]) 90 (0, 0))
  | k + 1, off, u, r => lo ≤ r ∧ ∃ r', r' < r ∧ w.heap[r]? = some (.cells (nodeC u #[(.string ⟨#[43]⟩), (.iface 59 (.pointer (some ⟨g + off, 0, none⟩))), (.iface 87 (.pointer (some ⟨r', 0, none⟩)))]) 90 (0, 0)) ∧ Chain w g lo k (off + 1) 0 r'
theorem Chain.lo {w : World} {g lo k off u r : Nat} (h : Chain w g lo k off u r) : lo ≤ r := by cases k <;> exact h.1
theorem Chain.keep {w w' : World} {S : Nat → Prop} (q : But S w w') {g lo : Nat} : ∀ {k off u r : Nat}, Chain w g lo k off u r → (∀ x, lo ≤ x → x ≤ r → ¬ S x) → Chain w' g lo k off u r
  | 0, _, _, _, h, hS => ⟨h.1, q.keep (hS _ h.1 (Nat.le_refl _)) h.2⟩
  | _ + 1, _, _, _, ⟨hl, r', hr, h1, h2⟩, hS => ⟨hl, r', hr, q.keep (hS _ hl (Nat.le_refl _)) h1, h2.keep q (fun x hx hxr => hS x hx (by omega))⟩
theorem Chain.lower {w : World} {g lo lo' : Nat} (hl : lo' ≤ lo) : ∀ {k off u r : Nat}, Chain w g lo k off u r → Chain w g lo' k off u r
  | 0, _, _, _, h => ⟨Nat.le_trans hl h.1, h.2⟩
  | _ + 1, _, _, _, ⟨h1, r', hr, h2, h3⟩ => ⟨Nat.le_trans hl h1, r', hr, h2, h3.lower hl⟩
theorem fold (g e0 n : Nat) (hn : n ≤ 4096) : ∀ (k L off a c : Nat) (w : World), L = k + 2 → off + L ≤ n → L ≤ c → w.heap[a]? = some (.cells (nodeC 0 #[.slice (some ⟨e0, off, none⟩) L c]) 75 (0, 0)) →
    (∀ i, i < n → w.cell? ⟨e0, i, none⟩ = some (.iface 59 (.pointer (some ⟨g + i, 0, none⟩)))) →
    Calls Tryr.prog 32 #[(.pointer (some ⟨a, 0, none⟩))] w fun e w' => ∃ r, e = .returned (.pointer (some ⟨r, 0, none⟩)) ∧ r < w'.heap.size ∧ But (fun _ => False) w w' ∧ Chain w' g w.heap.size k off 0 r := by
  intro k
  induction k with
  | zero =>
    intro L off a c w hL hoff hc ha hel
    subst hL
    have c1 : w.cell? ⟨a, 11, none⟩ = some (.slice (some ⟨e0, off, none⟩) 2 c) := field (j := 0) ha rfl
    have c2 := hel off (by omega)
    have c3 := hel (off + 1) (by omega)
    have la := lt_of ha
    have le0 := World.block_lt_of_cell? w _ c2
    clear ha hel hoff hc
    go_enter Tryr.func32, Tryr.ntmps32
    go_wp2
    go_region
    all_goals
      go_wp2
      go_ret
      refine ⟨_, rfl, by simp, by repeat' (first | exact But.refl _ _ | apply But.alloc | apply But.drew), ?_⟩
      refine ⟨by simp, ?_⟩
      rw [lit3]
      exact h_new _ _
  | succ m ih =>
    intro L off a c w hL hoff hc ha hel
    have c1 : w.cell? ⟨a, 11, none⟩ = some (.slice (some ⟨e0, off, none⟩) L c) := field (j := 0) ha rfl
    have c2 := hel off (by omega)
    have la := lt_of ha
    have le0 := World.block_lt_of_cell? w _ c2
    have h1 : (2 : Int) < L := by omega
    have h2 : 2 < L := by omega
    have h3 : L ≤ 4096 := by omega
    have h4 : 1 ≤ L := by omega
    have h5 : L - 1 ≤ c - 1 := by omega
    have HL : Hid (L = m + 1 + 2) := hL
    have hel2 : ∀ i, i < n → (w.drew.alloc (.cells (nodeC 0 #[.slice (some ⟨e0, off + 1, none⟩) (L - 1) (c - 1)]) 75)).cell? ⟨e0, i, none⟩ = some (.iface 59 (.pointer (some ⟨g + i, 0, none⟩))) := fun i hi => up (hel i hi)
    have key := ih (L - 1) (off + 1) w.heap.size (c - 1) (w.drew.alloc (.cells (nodeC 0 #[.slice (some ⟨e0, off + 1, none⟩) (L - 1) (c - 1)]) 75)) (by omega) (by omega) h5 (h_new w.drew _) hel2
    have ha1 := h_old (w := w.drew) (.cells (nodeC 0 #[.slice (some ⟨e0, off + 1, none⟩) (L - 1) (c - 1)]) 75) ha
    have hc2a : (w.drew.alloc (.cells (nodeC 0 #[.slice (some ⟨e0, off + 1, none⟩) (L - 1) (c - 1)]) 75)).cell? ⟨e0, off, none⟩ = some (.iface 59 (.pointer (some ⟨g + off, 0, none⟩))) := up (w := w.drew) c2
    rw [lit1] at key ha1 hc2a
    clear hL hel hel2 ih hn hoff ha
    go_enter Tryr.func32, Tryr.ntmps32
    go_wp2
    go_region_with (first | (go_at_call 32; refine key.mono ?_; rintro e w3 ⟨r', rfl, lr, q3, hch⟩; have d2 := field (j := 0) (q3.keep id ha1) rfl; have d3 := (World.cell?_of_block (q3.block e0 id (World.block_lt_of_cell? _ _ hc2a))).trans hc2a))
    all_goals
      go_wp2
      go_ret
      refine ⟨_, rfl, by simp, ((((But.refl _ w).drew).alloc _).trans q3).alloc _, ?_⟩
      refine ⟨by have := q3.size; simp at this; omega, r', lr, ?_, (hch.lower (by simp)).keep ((But.refl (fun _ => False) w3).alloc _) (fun _ _ _ h => h)⟩
      rw [lit3]
      exact h_new _ _
theorem Chain.retop {w : World} {g lo k off u r : Nat} (h : Chain w g lo k off u r) : ∃ fs, w.heap[r]? = some (.cells (nodeC u fs) 90 (0, 0)) ∧ ∀ (w' : World) (u' : Nat) (S : Nat → Prop), But S w w' → (∀ x, lo ≤ x → x < r → ¬ S x) → w'.heap[r]? = some (.cells (nodeC u' fs) 90 (0, 0)) → Chain w' g lo k off u' r := by
  cases k with
  | zero => exact ⟨_, h.2, fun w' u' S q hS h' => ⟨h.1, h'⟩⟩
  | succ k =>
    obtain ⟨hl, r', hr, h1, h2⟩ := h
    exact ⟨_, h1, fun w' u' S q hS h' => ⟨hl, r', hr, h', h2.keep q (fun x hx hxr => hS x hx (by omega))⟩⟩
theorem But.old {p : Nat → Prop} {a w : World} (h : But (fun k => p k ∨ a.heap.size ≤ k) a w) : But p a w := ⟨h.os, h.tape, h.output, h.size, fun k hk hl => h.block k (by intro s; rcases s with s | s; exact hk s; omega) hl⟩
theorem visit_fire (x : Value) (t rt sm ar ag ca e0 : Nat) (zs : List Int) (ht : t ≤ 4) (w : World) (h : SumAt w ⟨#[115, 117, 109]⟩ t rt sm ar ag 1 ca e0 zs) (h2 : 2 ≤ zs.length) (hn : zs.length ≤ 4096) :
    Calls Tryr.prog 25 #[x, (.pointer (some ⟨rt, 0, none⟩))] w fun e w' => e = .returned (.tuple #[]) ∧ ∃ r, But (fun k => k = rt) w w' ∧ w'.heap[rt]? = some (.cells #[(.iface 87 (.pointer (some ⟨r, 0, none⟩)))] 40 (0, 0)) ∧ Chain w' (e0 + 1) w.heap.size (zs.length - 2) 0 (ans t) r := by
  have c1 : w.cell? ⟨rt, 0, none⟩ = some (.iface 76 (.pointer (some ⟨sm, 0, none⟩))) := cell_of h.root rfl
  have c2 : w.cell? ⟨sm, 11, none⟩ = some (.string ⟨#[115, 117, 109]⟩) := field (j := 0) h.sum rfl
  have c3 : w.cell? ⟨sm, 12, none⟩ = some (.slice (some ⟨ag, 0, none⟩) 1 ca) := field (j := 1) h.sum rfl
  have c4 := h.args
  have c5 : w.cell? ⟨ar, 11, none⟩ = some (.slice (some ⟨e0, 0, none⟩) zs.length zs.length) := field (j := 0) h.arr rfl
  have n1 : (2 : Int) ≤ zs.length := by omega
  have key := fold (e0 + 1) e0 zs.length hn (zs.length - 2) zs.length 0 ar zs.length w (by omega) (by omega) (Nat.le_refl _) h.arr h.els
  have a2 := asArrayNode
  have a3 := asBuiltinNode
  go_enter Tryr.func25, Tryr.ntmps25
  go_wp2_with fail
  refine key.mono ?_
  clear key
  rintro e w1 ⟨r, rfl, lr, q1, hch⟩
  obtain ⟨fs, hr, hre⟩ := hch.retop
  have lrt := lt_of h.root
  have lsm := lt_of h.sum
  have hlo := hch.lo
  clear c1 c2 c3 c4 c5
  go_wp2_with fail
  refine (copyW isPU isPB rt sm r t 0 79 90 (by omega) _ fs _ (q1.keep id h.root) (q1.keep id h.sum) hr (by omega) (by omega)).mono ?_
  rintro e w2 ⟨rfl, q2, h2r, hrt⟩
  go_wp2
  go_returns
  refine ⟨rfl, r, ?_, hrt, hre w2 (ans t) _ q2 (by intro x hx hxr; omega) h2r⟩
  exact But.old ((q1.mono (fun _ h => h.elim)).trans (q2.mono (fun k hk => by omega)))
theorem visit_short (x : Value) (t rt sm ar ag ca e0 : Nat) (zs : List Int) (w : World) (h : SumAt w ⟨#[115, 117, 109]⟩ t rt sm ar ag 1 ca e0 zs) (hn : zs.length < 2) :
    Calls Tryr.prog 25 #[x, (.pointer (some ⟨rt, 0, none⟩))] w fun e w' => e = .returned (.tuple #[]) ∧ w' = w := by
  have c1 : w.cell? ⟨rt, 0, none⟩ = some (.iface 76 (.pointer (some ⟨sm, 0, none⟩))) := cell_of h.root rfl
  have c2 : w.cell? ⟨sm, 11, none⟩ = some (.string ⟨#[115, 117, 109]⟩) := field (j := 0) h.sum rfl
  have c3 : w.cell? ⟨sm, 12, none⟩ = some (.slice (some ⟨ag, 0, none⟩) 1 ca) := field (j := 1) h.sum rfl
  have c4 := h.args
  have c5 : w.cell? ⟨ar, 11, none⟩ = some (.slice (some ⟨e0, 0, none⟩) zs.length zs.length) := field (j := 0) h.arr rfl
  have n1 : ¬ ((2 : Int) ≤ zs.length) := by omega
  have a2 := asArrayNode
  have a3 := asBuiltinNode
  go_enter Tryr.func25, Tryr.ntmps25
  go_wp2
  go_returns
  exact ⟨rfl, rfl⟩
theorem visit_two (x : Value) (t rt sm ar ag ca e0 : Nat) (zs : List Int) (w : World) (h : SumAt w ⟨#[115, 117, 109]⟩ t rt sm ar ag 2 ca e0 zs) :
    Calls Tryr.prog 25 #[x, (.pointer (some ⟨rt, 0, none⟩))] w fun e w' => e = .returned (.tuple #[]) ∧ w' = w := by
  have c1 : w.cell? ⟨rt, 0, none⟩ = some (.iface 76 (.pointer (some ⟨sm, 0, none⟩))) := cell_of h.root rfl
  have c2 : w.cell? ⟨sm, 11, none⟩ = some (.string ⟨#[115, 117, 109]⟩) := field (j := 0) h.sum rfl
  have c3 : w.cell? ⟨sm, 12, none⟩ = some (.slice (some ⟨ag, 0, none⟩) 2 ca) := field (j := 1) h.sum rfl
  have a2 := asArrayNode
  have a3 := asBuiltinNode
  go_enter Tryr.func25, Tryr.ntmps25
  go_wp2
  go_returns
  exact ⟨rfl, rfl⟩
theorem visit_max (x : Value) (t rt sm ar ag na ca e0 : Nat) (zs : List Int) (w : World) (h : SumAt w ⟨#[109, 97, 120]⟩ t rt sm ar ag na ca e0 zs) :
    Calls Tryr.prog 25 #[x, (.pointer (some ⟨rt, 0, none⟩))] w fun e w' => e = .returned (.tuple #[]) ∧ w' = w := by
  have c1 : w.cell? ⟨rt, 0, none⟩ = some (.iface 76 (.pointer (some ⟨sm, 0, none⟩))) := cell_of h.root rfl
  have c2 : w.cell? ⟨sm, 11, none⟩ = some (.string ⟨#[109, 97, 120]⟩) := field (j := 0) h.sum rfl
  have a2 := asArrayNode
  have a3 := asBuiltinNode
  go_enter Tryr.func25, Tryr.ntmps25
  go_wp2
  go_returns
  exact ⟨rfl, rfl⟩
theorem visit_Sum (x : Value) (t rt sm ar ag na ca e0 : Nat) (zs : List Int) (w : World) (h : SumAt w ⟨#[83, 117, 109]⟩ t rt sm ar ag na ca e0 zs) :
    Calls Tryr.prog 25 #[x, (.pointer (some ⟨rt, 0, none⟩))] w fun e w' => e = .returned (.tuple #[]) ∧ w' = w := by
  have c1 : w.cell? ⟨rt, 0, none⟩ = some (.iface 76 (.pointer (some ⟨sm, 0, none⟩))) := cell_of h.root rfl
  have c2 : w.cell? ⟨sm, 11, none⟩ = some (.string ⟨#[83, 117, 109]⟩) := field (j := 0) h.sum rfl
  have a2 := asArrayNode
  have a3 := asBuiltinNode
  go_enter Tryr.func25, Tryr.ntmps25
  go_wp2
  go_returns
  exact ⟨rfl, rfl⟩
theorem visit_len (x : Value) (t rt sm ar ag na ca e0 : Nat) (zs : List Int) (w : World) (h : SumAt w ⟨#[108, 101, 110]⟩ t rt sm ar ag na ca e0 zs) :
    Calls Tryr.prog 25 #[x, (.pointer (some ⟨rt, 0, none⟩))] w fun e w' => e = .returned (.tuple #[]) ∧ w' = w := by
  have c1 : w.cell? ⟨rt, 0, none⟩ = some (.iface 76 (.pointer (some ⟨sm, 0, none⟩))) := cell_of h.root rfl
  have c2 : w.cell? ⟨sm, 11, none⟩ = some (.string ⟨#[108, 101, 110]⟩) := field (j := 0) h.sum rfl
  have a2 := asArrayNode
  have a3 := asBuiltinNode
  go_enter Tryr.func25, Tryr.ntmps25
  go_wp2
  go_returns
  exact ⟨rfl, rfl⟩
theorem zzVisit (rt sm ar e0 : Nat) (zs : List Int) (w : World) (Q : World → Prop) (key : ∀ x w1, But (fun _ => False) w w1 → Calls Tryr.prog 25 #[x, (.pointer (some ⟨rt, 0, none⟩))] w1 fun e w' => e = .returned (.tuple #[]) ∧ Q w') :
    Calls Tryr.prog 7 #[.agg #[(.pointer (some ⟨rt, 0, none⟩)), (.iface 76 (.pointer (some ⟨sm, 0, none⟩))), (.iface 73 (.pointer (some ⟨ar, 0, none⟩))), .slice (some ⟨e0, 0, none⟩) zs.length zs.length]] w fun e w' => e = .returned (.tuple #[]) ∧ Q w' := by
  go_enter Tryr.func7, Tryr.ntmps7
  go_wp2_with fail
  refine (key _ _ (((But.refl _ _).alloc _).alloc _)).mono ?_
  rintro e w1 ⟨rfl, hq⟩
  go_wp2
  go_returns
  exact ⟨rfl, hq⟩
end Go.Proofs.YtkgllpdcpmcmoaaReflFmt.opt
