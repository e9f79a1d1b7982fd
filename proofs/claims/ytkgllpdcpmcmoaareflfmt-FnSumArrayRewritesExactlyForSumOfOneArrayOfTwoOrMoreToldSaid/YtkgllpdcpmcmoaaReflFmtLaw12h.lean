/-
Row 12: the bound on lengths. No condition.
-/
import Derived.Test.YtkgllpdcpmcmoaaReflFmtSumD
import Derived.Test.YtkgllpdcpmcmoaaReflFmtSumE
import Derived.Deep.RegionHeld3
namespace Go.Proofs.YtkgllpdcpmcmoaaReflFmt.opt
open Go Go.Proofs Go.RowKit
set_option maxRecDepth 100000
set_option maxHeartbeats 1000000
theorem bytes12 (a x : Value) (sv : Option Addr) (n c : Nat) (w : World) : Calls Tryr.prog 5 #[a, .slice sv n c, x] w fun e w' => e = .returned (.bool (!decide ((1048576 : Int) < n))) ∧ w' = w := by
  by_cases h1 : (1048576 : Int) < n
  · go_enter Tryr.func5, Tryr.ntmps5
    go_wp2
    go_ret
    exact ⟨by simp [h1], rfl⟩
  · go_enter Tryr.func5, Tryr.ntmps5
    go_wp2
    go_ret
    exact ⟨by simp [h1], rfl⟩
end Go.Proofs.YtkgllpdcpmcmoaaReflFmt.opt
