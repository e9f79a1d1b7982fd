/-
The nature that a code stands for, over this cut. No condition.
-/
import Derived.Test.YthlmcnlkmgeohaaReflFmtAnyC
import Derived.Test.YthlmcnlkmgeohaaReflFmtNatB
namespace Go.Proofs.YthlmcnlkmgeohaaReflFmt.nat
open Go Go.Proofs Go.RowKit
set_option maxRecDepth 100000
set_option maxHeartbeats 1000000
theorem codeN (i : Nat) (hi : i < 17) (w : World) : Calls Tryr.prog 7 #[.int .i64 i] w fun e w' => ∃ p : Option Addr, (i ≠ 9 → (.pointer p : Value) = .pointer none) ∧ e = .returned (.agg #[tyV (nt i).ty, .int .u64 (nt i).k, .pointer p, .pointer none, .bool (nt i).nl, .bool false, .bool false, .bool (nt i).i, .bool (nt i).f]) ∧ Below w.heap.size w w' := by
  have h : i = 0 ∨ i = 1 ∨ i = 2 ∨ i = 3 ∨ i = 4 ∨ i = 5 ∨ i = 6 ∨ i = 7 ∨ i = 8 ∨ i = 9 ∨ i = 10 ∨ i = 11 ∨ i = 12 ∨ i = 13 ∨ i = 14 ∨ i = 15 ∨ i = 16 := by omega
  rcases h with rfl | rfl | rfl | rfl | rfl | rfl | rfl | rfl | rfl | rfl | rfl | rfl | rfl | rfl | rfl | rfl | rfl
  · exact (code_unknown w).mono fun e w' ⟨he, hb⟩ => ⟨none, fun _ => rfl, he, hb⟩
  · exact (code_nil w).mono fun e w' ⟨he, hb⟩ => ⟨none, fun _ => rfl, he, hb⟩
  · exact (code_int w).mono fun e w' ⟨he, hb⟩ => ⟨none, fun _ => rfl, he, hb⟩
  · exact (code_int64 w).mono fun e w' ⟨he, hb⟩ => ⟨none, fun _ => rfl, he, hb⟩
  · exact (code_uint8 w).mono fun e w' ⟨he, hb⟩ => ⟨none, fun _ => rfl, he, hb⟩
  · exact (code_float64 w).mono fun e w' ⟨he, hb⟩ => ⟨none, fun _ => rfl, he, hb⟩
  · exact (code_string w).mono fun e w' ⟨he, hb⟩ => ⟨none, fun _ => rfl, he, hb⟩
  · exact (code_bool w).mono fun e w' ⟨he, hb⟩ => ⟨none, fun _ => rfl, he, hb⟩
  · exact (code_duration w).mono fun e w' ⟨he, hb⟩ => ⟨none, fun _ => rfl, he, hb⟩
  · exact (code_time w).mono fun e w' ⟨g, he, hb⟩ => ⟨some ⟨g, 0, none⟩, fun h => absurd rfl h, he, hb⟩
  · exact (code_anys w).mono fun e w' ⟨he, hb⟩ => ⟨none, fun _ => rfl, he, hb⟩
  · exact (code_ints w).mono fun e w' ⟨he, hb⟩ => ⟨none, fun _ => rfl, he, hb⟩
  · exact (code_any w).mono fun e w' ⟨he, hb⟩ => ⟨none, fun _ => rfl, he, hb⟩
  · exact (code_error w).mono fun e w' ⟨he, hb⟩ => ⟨none, fun _ => rfl, he, hb⟩
  · exact (code_map w).mono fun e w' ⟨he, hb⟩ => ⟨none, fun _ => rfl, he, hb⟩
  · exact (code_month w).mono fun e w' ⟨he, hb⟩ => ⟨none, fun _ => rfl, he, hb⟩
  · exact (code_ptr w).mono fun e w' ⟨he, hb⟩ => ⟨none, fun _ => rfl, he, hb⟩
end Go.Proofs.YthlmcnlkmgeohaaReflFmt.nat
