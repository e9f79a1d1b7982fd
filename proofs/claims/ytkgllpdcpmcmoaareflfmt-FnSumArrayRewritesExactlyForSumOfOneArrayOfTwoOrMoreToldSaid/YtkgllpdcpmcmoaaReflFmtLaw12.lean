/-
Row 12: the law's walk, some of its cases. No condition.
-/
import Derived.Test.YtkgllpdcpmcmoaaReflFmtLaw12a
import Derived.Test.YtkgllpdcpmcmoaaReflFmtLaw12b
import Derived.Test.YtkgllpdcpmcmoaaReflFmtLaw12c
import Derived.Test.YtkgllpdcpmcmoaaReflFmtLaw12d
import Derived.Test.YtkgllpdcpmcmoaaReflFmtLaw12e
import Derived.Test.YtkgllpdcpmcmoaaReflFmtLaw12f
import Derived.Test.YtkgllpdcpmcmoaaReflFmtLaw12g
import Derived.Test.YtkgllpdcpmcmoaaReflFmtLaw12i
namespace Go.Proofs.YtkgllpdcpmcmoaaReflFmt.opt
open Go Go.Proofs Go.RowKit
set_option maxRecDepth 100000
set_option maxHeartbeats 40000000
theorem law12_out (tag : Int) (sv : Option Addr) (n c : Nat) (x : Bool) (h : 4096 < n ∨ tag < 0 ∨ 3 < tag) (w : World) :
    Calls Tryr.prog 3 #[.int .i64 tag, .slice sv n c, .bool x] w fun e w' => e = .returned (.bool true) ∧ Below w.heap.size w w' := by
  by_cases h1 : (1048576 : Int) < n
  · have hb1 : (!decide ((1048576 : Int) < n)) = false := by simp; omega
    go_enter Tryr.func3, Tryr.ntmps3
    go_wp2_with fail
    refine (bytes12 _ _ _ _ _ _).mono ?_
    rintro e w0 ⟨rfl, rfl⟩
    rw [hb1]
    go_wp2
    go_ret
    exact ⟨rfl, Below.refl _ _⟩
  · have hb1 : (!decide ((1048576 : Int) < n)) = true := by simp; omega
    by_cases h2 : (4096 : Int) < n
    · skip
      go_enter Tryr.func3, Tryr.ntmps3
      go_wp2_with fail
      refine (bytes12 _ _ _ _ _ _).mono ?_
      rintro e w0 ⟨rfl, rfl⟩
      rw [hb1]
      go_wp2
      go_ret
      exact ⟨rfl, Below.refl _ _⟩
    · by_cases h3 : tag < 0
      · skip
        go_enter Tryr.func3, Tryr.ntmps3
        go_wp2_with fail
        refine (bytes12 _ _ _ _ _ _).mono ?_
        rintro e w0 ⟨rfl, rfl⟩
        rw [hb1]
        go_wp2
        go_ret
        exact ⟨rfl, Below.refl _ _⟩
      · have h4 : 3 < tag := by omega
        go_enter Tryr.func3, Tryr.ntmps3
        go_wp2_with fail
        refine (bytes12 _ _ _ _ _ _).mono ?_
        rintro e w0 ⟨rfl, rfl⟩
        rw [hb1]
        go_wp2
        go_ret
        exact ⟨rfl, Below.refl _ _⟩
theorem law12 (tag : Int) (sv : Option Addr) (c : Nat) (zs : List Int) (x : Bool) (w : World) (hs : (sv = Option.none ∧ zs = [] ∧ c = 0) ∨ ∃ ad, sv = some ad ∧ ∀ j, j < zs.length → w.cell? (ad.add j) = some (.int .i64 (zs.getD j 0))) :
    Calls Tryr.prog 3 #[.int .i64 tag, .slice sv zs.length c, .bool x] w fun e w' => e = .returned (.bool true) ∧ Below w.heap.size w w' := by
  by_cases h : 4096 < zs.length ∨ tag < 0 ∨ 3 < tag
  · exact law12_out _ _ _ _ _ h w
  · have hn : zs.length ≤ 4096 := by omega
    have ht : tag = 0 ∨ tag = 1 ∨ tag = 2 ∨ tag = 3 := by omega
    rcases hs with ⟨rfl, rfl, rfl⟩ | ⟨ad, rfl, hc⟩
    · rcases ht with rfl | rfl | rfl | rfl <;> cases x
      · exact law12_sum_false_nil w
      · exact law12_sum_true_nil w
      · exact law12_max_false_nil w
      · exact law12_max_true_nil w
      · exact law12_Sum_false_nil w
      · exact law12_Sum_true_nil w
      · exact law12_len_false_nil w
      · exact law12_len_true_nil w
    · rcases ht with rfl | rfl | rfl | rfl <;> cases x
      · by_cases h2 : 2 ≤ zs.length
        · exact law12_sum_false_fire ad c zs h2 hn w hc
        · exact law12_sum_false ad c zs (by omega) hn w hc
      · exact law12_sum_true ad c zs hn w hc
      · exact law12_max_false ad c zs hn w hc
      · exact law12_max_true ad c zs hn w hc
      · exact law12_Sum_false ad c zs hn w hc
      · exact law12_Sum_true ad c zs hn w hc
      · exact law12_len_false ad c zs hn w hc
      · exact law12_len_true ad c zs hn w hc
end Go.Proofs.YtkgllpdcpmcmoaaReflFmt.opt
