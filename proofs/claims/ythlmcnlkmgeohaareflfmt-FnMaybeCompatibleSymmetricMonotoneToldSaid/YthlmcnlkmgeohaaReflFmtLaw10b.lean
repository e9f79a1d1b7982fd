/-
The law at lists longer than the bound: FnMaybeCompatibleSymmetricMonotone returns true. No condition.
-/
import Derived.Test.YthlmcnlkmgeohaaReflFmtLaw10
namespace Go.Proofs.YthlmcnlkmgeohaaReflFmt.nat
open Go Go.Proofs Go.RowKit
set_option maxRecDepth 100000
set_option maxHeartbeats 4000000
set_option linter.unusedSimpArgs false
theorem bytes10_big (a b : Value) (s1 s2 : Option Addr) (n1 c1 n2 c2 : Nat) (w : World) : Calls Tryr.prog 10 #[a, b, .slice s1 n1 c1, .slice s2 n2 c2] w fun e w' => e = .returned (.bool (!decide ((1048576 : Int) < n1) && !decide ((1048576 : Int) < n2) && !decide ((1048576 : Int) < n1 + n2))) ∧ w' = w := by
  by_cases h1 : (1048576 : Int) < n1
  · go_enter Tryr.func10, Tryr.ntmps10
    go_wp2
    go_ret
    exact ⟨by simp [h1], rfl⟩
  · by_cases h2 : (1048576 : Int) < n2
    · go_enter Tryr.func10, Tryr.ntmps10
      go_wp2
      go_ret
      exact ⟨by simp [h2], rfl⟩
    · by_cases h3 : (1048576 : Int) < n1 + n2
      · go_enter Tryr.func10, Tryr.ntmps10
        go_wp2
        go_ret
        exact ⟨by simp [h3], rfl⟩
      · go_enter Tryr.func10, Tryr.ntmps10
        go_wp2
        go_ret
        exact ⟨by simp [h1, h2, h3], rfl⟩
theorem law10_big (a b : Int) (s1 s2 : Option Addr) (n1 c1 n2 c2 : Nat) (hn : 65536 < n1 ∨ 65536 < n2) (w : World) : Calls Tryr.prog 4 #[.int .u8 a, .int .u8 b, .slice s1 n1 c1, .slice s2 n2 c2] w fun e w' => e = .returned (.bool true) ∧ Below w.heap.size w w' := by
  have hn' : (decide ((65536 : Int) < n1) || decide ((65536 : Int) < n2)) = true := by
    rcases hn with h | h
    · have : (65536 : Int) < n1 := by omega
      simp [this]
    · have : (65536 : Int) < n2 := by omega
      simp [this]
  go_enter Tryr.func4, Tryr.ntmps4
  go_wp2_with fail
  refine (bytes10_big _ _ _ _ _ _ _ _ _).mono ?_
  rintro e w0 ⟨rfl, rfl⟩
  generalize (!decide ((1048576 : Int) < n1) && !decide ((1048576 : Int) < n2) && !decide ((1048576 : Int) < n1 + n2)) = r
  cases r
  · go_wp2
    go_ret
    exact ⟨rfl, Below.refl _ _⟩
  · by_cases h1 : (65536 : Int) < n1
    · go_wp2
      go_ret
      exact ⟨rfl, Below.refl _ _⟩
    · have h2 : (65536 : Int) < n2 := by omega
      go_wp2
      go_ret
      exact ⟨rfl, Below.refl _ _⟩
end Go.Proofs.YthlmcnlkmgeohaaReflFmt.nat
