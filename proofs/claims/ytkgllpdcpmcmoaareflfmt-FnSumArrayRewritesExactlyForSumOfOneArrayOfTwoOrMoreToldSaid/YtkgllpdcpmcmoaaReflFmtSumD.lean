/-
What the walks of rows 12 and 13 share. No condition.
-/
import Derived.Test.YtkgllpdcpmcmoaaReflFmtSumB
import Derived.Laws.CopyRow
import Derived.Deep.WholeRow
namespace Go.Proofs.YtkgllpdcpmcmoaaReflFmt.opt
open Go Go.Proofs Go.RowKit
set_option maxRecDepth 100000
set_option maxHeartbeats 1000000
theorem infoI : (Tryr.prog.info? 3).map (fun i => (i.zero, i.size, i.bytes)) = some (some (.int .i64 0), 1, 8) := by kernel_rfl
theorem infoI1 : (Tryr.prog.info? 3).map (·.size) = some 1 := by kernel_rfl
theorem tag_ans (u : Nat) (h : u ≤ 4) : tag (ans u) = u := by unfold tag ans; split <;> (split <;> omega)
theorem Chain.node {w : World} {g lo k off u r : Nat} (h : Chain w g lo k off u r) : ∃ T b, IsNode T ∧ w.heap[r]? = some (.cells (nodeC u #[(.string ⟨#[43]⟩), (.iface 59 (.pointer (some ⟨g + off, 0, none⟩))), (.iface T (.pointer (some ⟨b, 0, none⟩)))]) 90 (0, 0)) ∧ (k = 0 → T = 59 ∧ b = g + (off + 1)) ∧
    (∀ k', k = k' + 1 → T = 87 ∧ b < r ∧ Chain w g lo k' (off + 1) 0 b) := by
  cases k with
  | zero => exact ⟨_, _, isPI, h.2, fun _ => ⟨rfl, rfl⟩, fun k' e => absurd e (by omega)⟩
  | succ k =>
    obtain ⟨_, r', hr, h1, h2⟩ := h
    exact ⟨_, _, isPB, h1, fun e => absurd e (by omega), fun k' e => by obtain rfl : k' = k := by omega
                                                                        exact ⟨rfl, hr, h2⟩⟩
theorem sumElemZ (rt sm ar e0 n i T b : Nat) (z : Int) (hz : z = (i : Int)) (hi : i < n) (w : World) (h : w.cell? ⟨e0, i, none⟩ = some (.iface T (.pointer (some ⟨b, 0, none⟩)))) :
    Calls Tryr.prog 13 #[.agg #[(.pointer (some ⟨rt, 0, none⟩)), (.iface 76 (.pointer (some ⟨sm, 0, none⟩))), (.iface 73 (.pointer (some ⟨ar, 0, none⟩))), .slice (some ⟨e0, 0, none⟩) n n], .int .i64 z] w fun e w' => e = .returned (.agg #[(.iface T (.pointer (some ⟨b, 0, none⟩)))]) ∧ But (fun _ => False) w w' := by
  subst hz
  exact sumElem rt sm ar e0 n i T b hi w h
theorem bytes13 (sv : Option Addr) (n c : Nat) (t : Value) (w : World) : Calls Tryr.prog 20 #[.slice sv n c, t] w fun e w' => e = .returned (.bool (!decide ((1048576 : Int) < n))) ∧ w' = w := by
  by_cases h1 : (1048576 : Int) < n
  · go_enter Tryr.func20, Tryr.ntmps20
    go_wp2
    go_ret
    exact ⟨by simp [h1], rfl⟩
  · go_enter Tryr.func20, Tryr.ntmps20
    go_wp2
    go_ret
    exact ⟨by simp [h1], rfl⟩
end Go.Proofs.YtkgllpdcpmcmoaaReflFmt.opt
