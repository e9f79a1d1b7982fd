/-
appendGo appends an element's decimal; one byte appended to a row of the call's own; the text of the first k elements. Condition: strconv's table of powers of ten reads as Go lays it.
-/
import Derived.Test.YtddimfehmmnaeaaReflDoorExtB
import Derived.BigQuiet
import Derived.BigRegion
import Derived.Lib.AppendStr
namespace Go.Proofs.YtddimfehmmnaeaaReflDoor.ext4
open Go Go.Proofs Go.RowKit
open Go.Proofs.YtddimfehmmnaeaaReflDoor.ext Go.Proofs.YtddimfehmmnaeaaReflDoor.walk
set_option maxRecDepth 100000
set_option maxHeartbeats 400000
theorem uappend (C : AppendIntC) (B m : Nat) (sv : Value) (xs : List Value) (d : Int) (hd0 : 0 ≤ d) (hd : d ≤ 10000) (a : Addr) (n : Int) (h0 : -9223372036854775808 ≤ n) (h1 : n ≤ 9223372036854775807) (w : World) (h : w.cell? a = some (.int .i64 n)) (hown : w.ownsRow B 5 1 sv m xs) (hBw : B ≤ w.heap.size) (hlim : m + 21 ≤ 140737488355328)
    (htab : Lib.TabBelow Tryr.prog B w "internal/strconv.uint64pow10" .u64 Lib.pow10Tab) :
    Calls Tryr.prog 11 #[sv, U a, .string ByteArray.empty, .int .i64 d] w fun e w' => ∃ v', e = .returned (.tuple #[v', .nilIface]) ∧ w'.ownsRow B 5 1 v' (m + (Lib.itoa n).length) (xs ++ Lib.byteCells (Lib.itoa n)) ∧ Below B w w' ∧ Lib.OthersKept 5 none w w' := by
  have g1 := isValid a
  have g2 := kind a
  have g3 := canI a
  have hc : (w.alloc (.cells #[typeHandle Tryr.prog 2, .pointer (some a), .int .u64 390] 63)).cell? a = some (.int .i64 n) := by
    rw [World.cell?_alloc_lt _ _ _ (World.block_lt_of_cell? w a h)]; exact h
  have g4 := iface0 a (.int .i64 n) _ hc
  have g5 := int0 a n _ hc
  clear hc
  unfold U at *
  have t1 := ta70
  have t2 := ta72
  have t3 := ta74
  go_enter Tryr.func11, Tryr.ntmps11
  go_wp2_with fail
  refine (C B m n h0 h1 sv xs _ (hown.alloc _) (by simp; omega) hlim (htab.on ((Below.refl _ _).alloc hBw _))).mono ?_
  rintro e w1 ⟨v', rfl, ho, hb, hk⟩
  clear g1 g2 g3 g4 g5 t1 t2 t3
  go_wp2
  go_ret2
  refine ⟨v', rfl, ho, ((Below.refl _ _).alloc hBw _).trans hb, ?_⟩
  exact ((Lib.OthersKept.refl 5 none w).alloc _).trans hk
theorem newLine_empty (v : Value) (d : Int) (w : World) : Calls Tryr.prog 34 #[v, .string ByteArray.empty, .int .i64 d] w fun e w' => e = .returned v ∧ w' = w := by
  go_enter Tryr.func34, Tryr.ntmps34
  go_wp2_with fail
  go_ret
  exact ⟨rfl, rfl⟩
theorem sElem' (w : World) : (callFunc 311 #[.pointer (some ⟨10, 53, none⟩)]).run Tryr.prog w = .ok (.value (.iface 102 (.pointer (some ⟨10, 2, none⟩)))) w := by kernel_rfl
theorem sElemKind' (w : World) : (callFunc 323 #[.pointer (some ⟨10, 2, none⟩)]).run Tryr.prog w = .ok (.value (.int .u64 6)) w := by kernel_rfl
theorem info5 : (Tryr.prog.info? 5).map (fun i => (i.zero, i.size, i.bytes)) = some (some (.int .u8 0), 1, 1) := by kernel_rfl
/-- append(dst, c): one byte onto a row of the call's own -/
theorem app1 {ops : Array Oper} {rest : List Oper} {o : Oper} {a : Act} {Q : Exit → Act → World → Prop} (hgd : o.guard = none) (s x : Operand)
    (ho : o.op = .call { callee := .builtin .append, args := #[s, x], argTypes := #[35, 35] })
    (B : Nat) (w0 w : World) (v : Value) (l : List UInt8) (c : UInt8) (z : Int) (hz : z = (c.toNat : Int)) (hs : a.eval s = v) (g : Nat) (hg0 : g = w.heap.size) (hx : a.eval x = .slice (some ⟨g, 0, none⟩) 1 1)
    (hown : w.ownsRow B 5 1 v l.length (Lib.byteCells l)) (hb : Below B w0 w) (hB : B ≤ w.heap.size) (hl : l.length + 1 ≤ 140737488355328)
    (h : ∀ v' w', w'.ownsRow B 5 1 v' (l ++ [c]).length (Lib.byteCells (l ++ [c])) → Below B w0 w' → wpList Tryr.prog ops Q rest (a.put o.dst v') w') :
    wpList Tryr.prog ops Q (o :: rest) a (w.alloc (.cells #[.int .u8 z] 5)) := by
  subst hg0
  obtain ⟨i0, hi, hz0, hz1, hz2⟩ := info_parts info5
  refine wpList_append_own _ hgd s x 35 ho B 5 i0 (.int .u8 0) 1 1 Tryr.underlying35 hi hz0 hz1 hz2 rfl (by decide) v l.length (Lib.byteCells l) hs (hown.alloc _) ⟨w.heap.size, 0, none⟩ 1 1 [.int .u8 c.toNat] hx rfl ?_ ?_ ?_ ?_ ?_ ?_
  · intro j u hj
    match j, hj with
    | 0, hj => simp at hj; subst hj; simp [Addr.add, hz]
  · intro u hu; simp at hu; subst hu; rfl
  · unfold maxLen; omega
  · omega
  · simp; omega
  · intro v' w' hown' hg _
    refine h v' w' (by simpa [Lib.byteCells] using hown') ?_
    exact (hb.alloc hB _).grown hg (by simp; omega) (fun k hk => (hown.lt k hk).1)
def sep (k : Nat) : List UInt8 := if k = 0 then [] else [44]
def J (zs : List Int) : Nat → List UInt8
  | 0 => [91]
  | k + 1 => J zs k ++ sep k ++ Lib.itoa (zs.getD k 0)
theorem sep_le (k : Nat) : (sep k).length ≤ 1 := by unfold sep; split <;> simp
theorem J_le (zs : List Int) (hz : ∀ z ∈ zs, -9223372036854775808 ≤ z ∧ z ≤ 9223372036854775807) (k : Nat) (hk : k ≤ zs.length) : (J zs k).length ≤ 1 + 22 * k := by
  induction k with
  | zero => simp [J]
  | succ k ih =>
    have h1 := ih (by omega)
    have h2 := sep_le k
    have hm : zs.getD k 0 ∈ zs := by
      have : k < zs.length := by omega
      simp [List.getD_eq_getElem?_getD, List.getElem?_eq_getElem this]
    have h3 := Lib.itoa_length_le _ (hz _ hm).1 (hz _ hm).2
    simp only [J, List.length_append]
    omega
end Go.Proofs.YtddimfehmmnaeaaReflDoor.ext4
