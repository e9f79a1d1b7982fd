/-
A ConstantNode holding a bool prints as true or false, and the law's walk: the call returns true. Condition: fmt answers at "%t" as told.
-/
import Derived.Test.YtddimfehmmnaeaaReflFmtExt
import Derived.Lib.AppendStr
import Derived.Lib.UnsafeStr
import Derived.Lib.BufferKept
import Derived.Lib.AppendIntMem
namespace Go.Proofs.YtddimfehmmnaeaaReflFmt.walk
open Go Go.Proofs Go.RowKit
open Go.Extern.Stop Go.Stop Go.Extern
open Go.Proofs.YtddimfehmmnaeaaReflFmt.ext
set_option maxRecDepth 100000
set_option maxHeartbeats 1000000
theorem info5 : (Tryr.prog.info? 5).map (fun i => (i.zero, i.size, i.bytes)) = some (some (.int .u8 0), 1, 1) := by kernel_rfl
/-- append(dst, s...): a string onto a row of the call's own -/
theorem appS {ops : Array Oper} {rest : List Oper} {o : Oper} {a : Act} {Q : Exit → Act → World → Prop} (hgd : o.guard = none) (s x : Operand)
    (ho : o.op = .call { callee := .builtin .append, args := #[s, x], argTypes := #[35, 9] })
    (B : Nat) (w0 w : World) (v : Value) (l m : List UInt8) (hs : a.eval s = v) (hx : a.eval x = .string ⟨m.toArray⟩)
    (hown : w.ownsRow B 5 1 v l.length (Lib.byteCells l)) (hb : Below B w0 w) (hB : B ≤ w.heap.size) (hl : l.length + m.length ≤ 140737488355328)
    (h : ∀ v' w', w'.ownsRow B 5 1 v' (l ++ m).length (Lib.byteCells (l ++ m)) → Below B w0 w' → wpList Tryr.prog ops Q rest (a.put o.dst v') w') :
    wpList Tryr.prog ops Q (o :: rest) a w := by
  obtain ⟨i0, hi, hz0, hz1, hz2⟩ := info_parts info5
  refine Lib.wpList_append_own_string w hgd s x 35 9 ho B 5 i0 Tryr.underlying35 Tryr.underlying9 hi hz0 hz1 hz2 v l.length (Lib.byteCells l) hs hown ⟨m.toArray⟩ hx ?_ ?_ ?_ ?_
  · have : (⟨m.toArray⟩ : ByteArray).size = m.length := by simp [ByteArray.size]
    unfold maxLen; omega
  · have : (⟨m.toArray⟩ : ByteArray).size = m.length := by simp [ByteArray.size]
    omega
  · exact hB
  · intro v' w' hown' hg _
    have e1 : (⟨m.toArray⟩ : ByteArray).size = m.length := by simp [ByteArray.size]
    have e2 : Lib.strCells ⟨m.toArray⟩ = Lib.byteCells m := by simp [Lib.strCells, Lib.byteCells]
    rw [e1, e2] at hown'
    refine h v' w' (by simpa [Lib.byteCells] using hown') ?_
    exact hb.grown hg hB (fun k hk => (hown.lt k hk).1)
/-- strconv.AppendBool onto nothing -/
theorem AppendBool43 (b : Bool) (w : World) : Calls Tryr.prog 43 #[.slice none 0 0, .bool b] w fun e w' => ∃ v', e = .returned v' ∧ w'.ownsRow w.heap.size 5 1 v' (boolText b).length (Lib.byteCells (boolText b)) ∧ Below w.heap.size w w' := by
  cases b
  · go_enter Tryr.func43, Tryr.ntmps43
    go_wp2_with (first | (at_builtin; refine appS rfl (.tmp 8) (.const (.string ⟨#[102, 97, 108, 115, 101]⟩)) rfl w.heap.size w _ (.slice none 0 0) [] [102, 97, 108, 115, 101] rfl rfl (World.ownsRow_nil _ _ _ _) (Below.refl _ _) (Nat.le_refl _) (by simp) ?_))
    intro v2 w2 ho2 hb2
    go_wp2
    go_ret
    exact ⟨v2, rfl, ho2, hb2⟩
  · go_enter Tryr.func43, Tryr.ntmps43
    go_wp2_with (first | (at_builtin; refine appS rfl (.tmp 6) (.const (.string ⟨#[116, 114, 117, 101]⟩)) rfl w.heap.size w _ (.slice none 0 0) [] [116, 114, 117, 101] rfl rfl (World.ownsRow_nil _ _ _ _) (Below.refl _ _) (Nat.le_refl _) (by simp) ?_))
    intro v2 w2 ho2 hb2
    go_wp2
    go_ret
    exact ⟨v2, rfl, ho2, hb2⟩
theorem AppendBool (b : Bool) (w : World) : Calls Tryr.prog 17 #[.slice none 0 0, .bool b] w fun e w' => ∃ v', e = .returned v' ∧ w'.ownsRow w.heap.size 5 1 v' (boolText b).length (Lib.byteCells (boolText b)) ∧ Below w.heap.size w w' := by
  go_enter Tryr.func17, Tryr.ntmps17
  go_wp2_with fail
  refine (AppendBool43 b w).mono ?_
  rintro e w1 ⟨v', rfl, ho, hb⟩
  go_wp2
  go_ret
  exact ⟨v', rfl, ho, hb⟩
theorem own_mono {w : World} {B B' : Nat} {v : Value} {n : Nat} {xs : List Value} (hB : B' ≤ B) (h : w.ownsRow B 5 1 v n xs) : w.ownsRow B' 5 1 v n xs :=
  ⟨h.1, h.2.imp id (fun ⟨g, cap, cur, h1, h2, rest⟩ => ⟨g, cap, cur, h1, Nat.le_trans hB h2, rest⟩)⟩
theorem appendGo_bool (b : Bool) (a : Addr) (w : World) (h : w.cell? a = some (.bool b)) :
    Calls Tryr.prog 8 #[.slice none 0 0, V a, .string ByteArray.empty, .int .i64 0] w fun e w' => ∃ v', e = .returned (.tuple #[v', .nilIface]) ∧ w'.ownsRow w.heap.size 5 1 v' (boolText b).length (Lib.byteCells (boolText b)) ∧ Below w.heap.size w w' := by
  have g1 := isValid a
  have g2 := kind a
  have g3 := canI a
  have hc : (w.alloc (.cells #[typeHandle Tryr.prog 4, .pointer (some a), .int .u64 129] 61)).cell? a = some (.bool b) := by
    rw [World.cell?_alloc_lt _ _ _ (World.block_lt_of_cell? w a h)]; exact h
  have g4 := iface0 a (.bool b) _ hc
  have g5 := bool0 a b _ hc
  clear hc
  unfold V at *
  have t1 := fun (v : Value) (w : World) => (run_typeAssert_lacksB Tryr.underlying68 (by kernel_rfl) (by kernel_rfl) v 20 w : (Instr.typeAssert (.iface 4 v) 20 68 true).run Tryr.prog w = .ok (.tuple #[.nilIface, .bool false]) w)
  have t2 := fun (v : Value) (w : World) => (run_typeAssert_lacksB Tryr.underlying70 (by kernel_rfl) (by kernel_rfl) v 20 w : (Instr.typeAssert (.iface 4 v) 20 70 true).run Tryr.prog w = .ok (.tuple #[.nilIface, .bool false]) w)
  have t3 := fun (v : Value) (w : World) => (run_typeAssert_lacksB Tryr.underlying72 (by kernel_rfl) (by kernel_rfl) v 20 w : (Instr.typeAssert (.iface 4 v) 20 72 true).run Tryr.prog w = .ok (.tuple #[.nilIface, .bool false]) w)
  go_enter Tryr.func8, Tryr.ntmps8
  go_wp2_with fail
  have hb0 := (Below.refl w.heap.size w).alloc (Nat.le_refl _) (.cells #[typeHandle Tryr.prog 4, .pointer (some a), .int .u64 129] 61)
  refine (AppendBool b _).mono ?_
  rintro e w1 ⟨v', rfl, ho, hb⟩
  clear g1 g2 g3 g4 g5 t1 t2 t3
  go_wp2
  go_ret2
  exact ⟨v', rfl, own_mono hb0.size ho, hb0.trans (hb.mono hb0.size)⟩
theorem AppendGo_bool (b : Bool) (w : World) :
    Calls Tryr.prog 7 #[.slice none 0 0, .iface 4 (.bool b), .string ByteArray.empty] w fun e w' => ∃ v', e = .returned (.tuple #[v', .nilIface]) ∧ w'.ownsRow w.heap.size 5 1 v' (boolText b).length (Lib.byteCells (boolText b)) ∧ Below w.heap.size w w' := by
  have g := valueOf b
  have hb0 := (Below.refl w.heap.size w).alloc (Nat.le_refl _) (.cells #[.bool b] 4)
  go_enter Tryr.func7, Tryr.ntmps7
  go_wp2_with fail
  refine (appendGo_bool b _ _ (by simp)).mono ?_
  rintro e w1 ⟨v', rfl, ho, hb⟩
  go_wp2
  go_ret2
  exact ⟨v', rfl, own_mono hb0.size ho, hb0.trans (hb.mono hb0.size)⟩
theorem conv_nil (w : World) : (convert 35 9 (.slice none 0 0)).run Tryr.prog w = .ok (.string ⟨#[]⟩) w := by kernel_rfl
theorem conv_own (w : World) (B : Nat) (v : Value) (l : List UInt8) (ho : w.ownsRow B 5 1 v l.length (Lib.byteCells l)) : (convert 35 9 v).run Tryr.prog w = .ok (.string ⟨l.toArray⟩) w := by
  rcases ho.2 with ⟨rfl, h0⟩ | ⟨g, cap, cur, rfl, hg, hh, hn, hcap, hcur, htake⟩
  · have : l = [] := List.length_eq_zero_iff.1 h0
    subst this
    exact conv_nil w
  · refine run_convert_bytes_back (P := Tryr.prog) w 35 9 5 ⟨g, 0, none⟩ cap l Tryr.underlying35 Tryr.underlying5 Tryr.underlying9 (fun j hj => ?_)
    exact ho.cells rfl j _ (by simp [Lib.byteCells, hj])
theorem ConstString (b : Bool) (w : World) (n : Nat) (hc : w.cell? ⟨n, 11, none⟩ = some (.iface 4 (.bool b))) :
    Calls Tryr.prog 5 #[.pointer (some ⟨n, 0, none⟩)] w fun e w' => e = .returned (.string ⟨(boolText b).toArray⟩) ∧ Below w.heap.size w w' := by
  go_enter Tryr.func5, Tryr.ntmps5
  go_wp2_with fail
  refine (AppendGo_bool b _).mono ?_
  rintro e w1 ⟨v', rfl, ho, hb1⟩
  have hcv := conv_own w1 _ v' _ ho
  go_wp2
  go_ret
  exact ⟨rfl, hb1⟩
theorem law_walk (F : Interp) (b : Bool) (w : World) (hF : F.answers w.tape) (ht : FmtStop.textOf (F "fmt.Sprintf" (reading b) 0) = ⟨(boolText b).toArray⟩) :
    Calls Tryr.prog 3 #[.bool b] w fun e w' => e = .returned (.bool true) ∧ Below w.heap.size w w' := by
  go_enter Tryr.func3, Tryr.ntmps3
  go_wp2_with fail
  have hb0 := ((Below.refl w.heap.size w).alloc (Nat.le_refl _) (.cells #[.int .i64 0, .int .i64 0, .nilIface, .int .u64 0, .pointer none, .pointer none, .bool false, .bool false, .bool false, .bool false, .bool false, .bool b] 49)).alloc (by simp) (.cells #[.int .i64 0, .int .i64 0, .nilIface, .int .u64 0, .pointer none, .pointer none, .bool false, .bool false, .bool false, .bool false, .bool false, .iface 4 (.bool b)] 52)
  have hc1 : ((w.alloc (.cells #[.int .i64 0, .int .i64 0, .nilIface, .int .u64 0, .pointer none, .pointer none, .bool false, .bool false, .bool false, .bool false, .bool false, .bool b] 49)).alloc (.cells #[.int .i64 0, .int .i64 0, .nilIface, .int .u64 0, .pointer none, .pointer none, .bool false, .bool false, .bool false, .bool false, .bool false, .iface 4 (.bool b)] 52)).cell? ⟨w.heap.size, 11, none⟩ = some (.bool b) := by
    rw [World.cell?_alloc_lt _ _ _ (by simp)]; simp
  have hc2 : ((w.alloc (.cells #[.int .i64 0, .int .i64 0, .nilIface, .int .u64 0, .pointer none, .pointer none, .bool false, .bool false, .bool false, .bool false, .bool false, .bool b] 49)).alloc (.cells #[.int .i64 0, .int .i64 0, .nilIface, .int .u64 0, .pointer none, .pointer none, .bool false, .bool false, .bool false, .bool false, .bool false, .iface 4 (.bool b)] 52)).cell? ⟨w.heap.size + 1, 11, none⟩ = some (.iface 4 (.bool b)) := by simp
  have hlt : w.heap.size + 1 < ((w.alloc (.cells #[.int .i64 0, .int .i64 0, .nilIface, .int .u64 0, .pointer none, .pointer none, .bool false, .bool false, .bool false, .bool false, .bool false, .bool b] 49)).alloc (.cells #[.int .i64 0, .int .i64 0, .nilIface, .int .u64 0, .pointer none, .pointer none, .bool false, .bool false, .bool false, .bool false, .bool false, .iface 4 (.bool b)] 52)).heap.size := by simp
  have hB := BoolString F b w.heap.size ((w.alloc (.cells #[.int .i64 0, .int .i64 0, .nilIface, .int .u64 0, .pointer none, .pointer none, .bool false, .bool false, .bool false, .bool false, .bool false, .bool b] 49)).alloc (.cells #[.int .i64 0, .int .i64 0, .nilIface, .int .u64 0, .pointer none, .pointer none, .bool false, .bool false, .bool false, .bool false, .bool false, .iface 4 (.bool b)] 52)) hF hc1
  rw [ht] at hB
  refine hB.mono ?_
  rintro e w3 ⟨rfl, hb3⟩
  have hc3 : w3.cell? ⟨w.heap.size + 1, 11, none⟩ = some (.iface 4 (.bool b)) := (hb3.cell (by exact hlt)).trans hc2
  have hb4 := hb0.trans (hb3.mono hb0.size)
  clear hB hc1 hc2 hb3 hb0
  go_wp2_with fail
  refine (ConstString b w3 (w.heap.size + 1) hc3).mono ?_
  rintro e w4 ⟨rfl, hb5⟩
  have hb6 := hb4.trans (hb5.mono hb4.size)
  go_wp2
  go_ret
  exact ⟨by simp, hb6⟩
end Go.Proofs.YtddimfehmmnaeaaReflFmt.walk
