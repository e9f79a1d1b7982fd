/-
The print of a ConstantNode that holds an int64 is the number's decimal, and the law's walk: the call returns true. Condition: strconv's table of powers of ten reads as Go lays it.
-/
import Derived.Test.YtddimfehmmnaeaaReflDoorExt
import Derived.Test.YtddimfehmmnaeaaReflDoorShelf
import Derived.Lib.AppendIntMem
import Derived.Lib.BufferKept
import Derived.Stop.Asserts
namespace Go.Proofs.YtddimfehmmnaeaaReflDoor.walk
open Go Go.Proofs Go.RowKit Go.Proofs.YtddimfehmmnaeaaReflDoor.ext
set_option maxRecDepth 100000
set_option maxHeartbeats 400000
/-- what the shelf says of strconv.AppendInt at base 10 -/
def AppendIntC : Prop := ∀ (B n : Nat) (i : Int) (_h0 : -9223372036854775808 ≤ i) (_h1 : i ≤ 9223372036854775807) (sv : Value) (xs : List Value) (w : World) (_hown : w.ownsRow B 5 1 sv n xs) (_hBw : B ≤ w.heap.size) (_hlim : n + 21 ≤ 140737488355328)
    (_htab : Lib.TabBelow Tryr.prog B w "internal/strconv.uint64pow10" .u64 Lib.pow10Tab),
    Calls Tryr.prog 22 #[sv, .int .i64 i, .int .i64 10] w fun e w' => ∃ v', e = .returned v' ∧ w'.ownsRow B 5 1 v' (n + (Lib.itoa i).length) (xs ++ Lib.byteCells (Lib.itoa i)) ∧ Below B w w' ∧ Lib.OthersKept 5 none w w'
theorem ta70 (v : Value) (w : World) : (Instr.typeAssert (.iface 2 v) 20 70 true).run Tryr.prog w = .ok (.tuple #[.nilIface, .bool false]) w := run_typeAssert_lacksB Tryr.underlying70 (by kernel_rfl) (by kernel_rfl) v 20 w
theorem ta72 (v : Value) (w : World) : (Instr.typeAssert (.iface 2 v) 20 72 true).run Tryr.prog w = .ok (.tuple #[.nilIface, .bool false]) w := run_typeAssert_lacksB Tryr.underlying72 (by kernel_rfl) (by kernel_rfl) v 20 w
theorem ta74 (v : Value) (w : World) : (Instr.typeAssert (.iface 2 v) 20 74 true).run Tryr.prog w = .ok (.tuple #[.nilIface, .bool false]) w := run_typeAssert_lacksB Tryr.underlying74 (by kernel_rfl) (by kernel_rfl) v 20 w
/-- the appended number, where dst is a slice of the call's own -/
theorem appendGo_int (C : AppendIntC) (B m : Nat) (sv : Value) (xs : List Value) (d : Int) (hd0 : 0 ≤ d) (hd : d ≤ 10000) (a : Addr) (n : Int) (h0 : -9223372036854775808 ≤ n) (h1 : n ≤ 9223372036854775807) (w : World) (h : w.cell? a = some (.int .i64 n)) (hown : w.ownsRow B 5 1 sv m xs) (hBw : B ≤ w.heap.size) (hlim : m + 21 ≤ 140737488355328)
    (htab : Lib.TabBelow Tryr.prog B w "internal/strconv.uint64pow10" .u64 Lib.pow10Tab) :
    Calls Tryr.prog 11 #[sv, V a, .string ByteArray.empty, .int .i64 d] w fun e w' => ∃ v', e = .returned (.tuple #[v', .nilIface]) ∧ w'.ownsRow B 5 1 v' (m + (Lib.itoa n).length) (xs ++ Lib.byteCells (Lib.itoa n)) ∧ Below B w w' ∧ Lib.OthersKept 5 none w w' := by
  have g1 := isValid a
  have g2 := kind a
  have g3 := canI a
  have hc : (w.alloc (.cells #[typeHandle Tryr.prog 2, .pointer (some a), .int .u64 134] 63)).cell? a = some (.int .i64 n) := by
    rw [World.cell?_alloc_lt _ _ _ (World.block_lt_of_cell? w a h)]; exact h
  have g4 := iface0 a (.int .i64 n) _ hc
  have g5 := int0 a n _ hc
  clear hc
  unfold V at *
  have t1 := ta70
  have t2 := ta72
  have t3 := ta74
  go_enter Tryr.func11, Tryr.ntmps11
  go_wp2_with fail
  refine (C B m n h0 h1 sv xs _ (hown.alloc _) (by simp; omega) hlim (htab.on ((Below.refl _ _).alloc hBw _))).mono ?_
  rintro e w1 ⟨v', rfl, ho, hb, hk⟩
  clear g1 g2 g3 g4 g5 t1 t2 t3
  go_wp2
  go_ret2
  refine ⟨v', rfl, ho, ((Below.refl _ _).alloc hBw _).trans hb, ?_⟩
  exact ((Lib.OthersKept.refl 5 none w).alloc _).trans hk


theorem valueOf (n : Int) (w : World) : (callFunc 12 #[.iface 2 (.int .i64 n)]).run Tryr.prog w = .ok (.value (V ⟨w.heap.size, 0, none⟩)) (w.alloc (.cells #[.int .i64 n] 2)) := by kernel_rfl
theorem AppendGo_int (C : AppendIntC) (n : Int) (h0 : -9223372036854775808 ≤ n) (h1 : n ≤ 9223372036854775807) (w : World)
    (htab : Lib.TabBelow Tryr.prog w.heap.size w "internal/strconv.uint64pow10" .u64 Lib.pow10Tab) :
    Calls Tryr.prog 10 #[.slice none 0 0, .iface 2 (.int .i64 n), .string ByteArray.empty] w fun e w' => ∃ v', e = .returned (.tuple #[v', .nilIface]) ∧ w'.ownsRow w.heap.size 5 1 v' (Lib.itoa n).length (Lib.byteCells (Lib.itoa n)) ∧ Below w.heap.size w w' := by
  have g := valueOf n
  go_enter Tryr.func10, Tryr.ntmps10
  go_wp2_with fail
  have hb := (Below.refl w.heap.size w).alloc (Nat.le_refl _) (.cells #[.int .i64 n] 2)
  refine (appendGo_int C w.heap.size 0 (.slice none 0 0) [] 0 (by omega) (by omega) ⟨w.heap.size, 0, none⟩ n h0 h1 _ ?_ ?_ ?_ (by omega) (htab.on hb)).mono ?_
  · simp
  · exact World.ownsRow_nil _ _ _ _
  · simp
  rintro e w1 ⟨v', rfl, ho, hb1, _⟩
  go_wp2
  go_ret2
  refine ⟨v', rfl, ?_, hb.trans hb1⟩
  simpa using ho
theorem conv_nil (w : World) : (convert 35 9 (.slice none 0 0)).run Tryr.prog w = .ok (.string ⟨#[]⟩) w := by kernel_rfl
theorem conv_own (w : World) (B : Nat) (v : Value) (l : List UInt8) (ho : w.ownsRow B 5 1 v l.length (Lib.byteCells l)) : (convert 35 9 v).run Tryr.prog w = .ok (.string ⟨l.toArray⟩) w := by
  rcases ho.2 with ⟨rfl, h0⟩ | ⟨g, cap, cur, rfl, hg, hh, hn, hcap, hcur, htake⟩
  · have : l = [] := List.length_eq_zero_iff.1 h0
    subst this
    exact conv_nil w
  · refine run_convert_bytes_back (P := Tryr.prog) w 35 9 5 ⟨g, 0, none⟩ cap l Tryr.underlying35 Tryr.underlying5 Tryr.underlying9 (fun j hj => ?_)
    exact ho.cells rfl j _ (by simp [Lib.byteCells, hj])
theorem String_int (C : AppendIntC) (n : Int) (h0 : -9223372036854775808 ≤ n) (h1 : n ≤ 9223372036854775807) (w : World) (b : Nat) (hc : w.cell? ⟨b, 11, none⟩ = some (.iface 2 (.int .i64 n)))
    (htab : Lib.TabBelow Tryr.prog w.heap.size w "internal/strconv.uint64pow10" .u64 Lib.pow10Tab) :
    Calls Tryr.prog 5 #[.pointer (some ⟨b, 0, none⟩)] w fun e w' => e = .returned (.string ⟨(Lib.itoa n).toArray⟩) ∧ Below w.heap.size w w' := by
  go_enter Tryr.func5, Tryr.ntmps5
  go_wp2_with fail
  refine (AppendGo_int C n h0 h1 _ htab).mono ?_
  rintro e w1 ⟨v', rfl, ho, hb1⟩
  have hcv := conv_own w1 _ v' _ ho
  go_wp2
  go_ret
  exact ⟨rfl, hb1⟩

theorem tab_on {w w1 : World} {name : String} {k : IntKind} {zs : List Int} (h : Lib.TabBelow Tryr.prog w.heap.size w name k zs) (hb : Below w.heap.size w w1) : Lib.TabBelow Tryr.prog w1.heap.size w1 name k zs :=
  fun w' h' => h w' (hb.trans (h'.mono hb.size))
theorem law_walk (C : AppendIntC) (I : ∀ n w, -9223372036854775808 ≤ n → n ≤ 9223372036854775807 → Calls Tryr.prog 6 #[.int .i64 n] w fun e w' => e = .returned (.string ⟨(Lib.itoa n).toArray⟩) ∧ Below w.heap.size w w') (n : Int) (h0 : -9223372036854775808 ≤ n) (h1 : n ≤ 9223372036854775807) (w : World) 
    (htab : Lib.TabBelow Tryr.prog w.heap.size w "internal/strconv.uint64pow10" .u64 Lib.pow10Tab) :
   Calls Tryr.prog 3 #[.int .i64 n] w fun e w' => e = .returned (.bool true) ∧ Below w.heap.size w w' := by
  go_enter Tryr.func3, Tryr.ntmps3
  go_wp2_with fail
  have hb := (Below.refl w.heap.size w).alloc (Nat.le_refl _) (.cells #[.int .i64 0, .int .i64 0, .nilIface, .int .u64 0, .pointer none, .pointer none, .bool false, .bool false, .bool false, .bool false, .bool false, .iface 2 (.int .i64 n)] 49)
  refine (String_int C n h0 h1 _ w.heap.size ?_ (tab_on htab hb)).mono ?_
  · simp
  rintro e w1 ⟨rfl, hb1⟩
  have hb2 := hb.trans (hb1.mono hb.size)
  clear hb hb1
  go_wp2_with fail
  refine (I n w1 h0 h1).mono ?_
  rintro e w2 ⟨rfl, hb3⟩
  have hb4 := hb2.trans (hb3.mono hb2.size)
  clear hb2 hb3
  go_wp2
  go_ret
  exact ⟨by simp, hb4⟩
theorem ai : AppendIntC := fun B n i h0 h1 sv xs w hown hBw hlim htab => Tryr.strconv_AppendInt_10 B n i h0 h1 sv xs w hown hBw hlim htab
end Go.Proofs.YtddimfehmmnaeaaReflDoor.walk
