/-
The law's walk: for a nil, an empty and any other []int64 the law's call returns true. Condition: strconv's table of powers of ten reads as Go lays it.
-/
import Derived.Test.YtddimfehmmnaeaaReflDoorWalkC
import Derived.Deep.OwnRows
import Derived.Lib.AppendStr
namespace Go.Proofs.YtddimfehmmnaeaaReflDoor.ext4
open Go Go.Proofs Go.RowKit
open Go.Proofs.YtddimfehmmnaeaaReflDoor.ext Go.Proofs.YtddimfehmmnaeaaReflDoor.walk
set_option maxRecDepth 100000
set_option maxHeartbeats 4000000
theorem info2 : (Tryr.prog.info? 2).map (fun i => (i.zero, i.size, i.bytes)) = some (some (.int .i64 0), 1, 8) := by kernel_rfl
theorem nilT (w : World) : (binOp .eql 53 (.slice none 0 0) (.slice none 0 0)).run Tryr.prog w = .ok (.bool true) w := by kernel_rfl
theorem nilF (a : Addr) (n c : Nat) (w : World) : (binOp .eql 53 (.slice (some a) n c) (.slice none 0 0)).run Tryr.prog w = .ok (.bool false) w := by kernel_rfl
theorem clone_nil (w : World) : Calls Tryr.prog 8 #[.slice none 0 0] w fun e w' => e = .returned (.slice none 0 0) ∧ w' = w := by
  have hn := nilT
  go_enter Tryr.func8, Tryr.ntmps8
  go_wp2
  go_ret
  exact ⟨rfl, rfl⟩
theorem made_cell (w : World) (n j : Nat) (hj : j < n) : (w.alloc (.cells (madeCells #[.int .i64 0] n) 2)).cell? ⟨w.heap.size, j, none⟩ = some (.int .i64 0) := by
  rw [World.cell?_alloc_at]
  · simp [madeCells, hj, Nat.mod_one]
  · rfl
theorem clone_some (b off : Nat) (cap : Nat) (zs : List Int) (hn1 : zs.length ≤ 131072) (w : World) (hb : b < w.heap.size) 
    (hc : ∀ j, j < zs.length → w.cell? ⟨b, off + j, none⟩ = some (.int .i64 (zs.getD j 0))) :
    Calls Tryr.prog 8 #[.slice (some ⟨b, off, none⟩) zs.length cap] w fun e w' => ∃ g, e = .returned (.slice (some ⟨g, 0, none⟩) zs.length zs.length) ∧ g = w.heap.size ∧ g < w'.heap.size ∧
      (∀ j, j < zs.length → w'.cell? ⟨g, j, none⟩ = some (.int .i64 (zs.getD j 0))) ∧ Below w.heap.size w w' := by
  have hn0 := nilF
  have hm := run_make_row' (P := Tryr.prog) 53 2 (.int .i64 0) 8 Tryr.underlying53 info2 rfl .i64 .i64 zs.length (by omega) (by omega)
  go_enter Tryr.func8, Tryr.ntmps8
  go_wp2
  clear hm hn0
  go_loopw [4] (fun i wr => ∃ k : Nat, k ≤ zs.length ∧ i = .int .i64 k ∧ (∀ j, j < k → wr.cell? ⟨w.heap.size, j, none⟩ = some (.int .i64 (zs.getD j 0))) ∧
      (∀ j, k ≤ j → j < zs.length → wr.cell? ⟨w.heap.size, j, none⟩ = some (.int .i64 0)) ∧ (∀ j, wr.frozen? ⟨w.heap.size, j, none⟩ = false) ∧ w.heap.size < wr.heap.size ∧ Below w.heap.size w wr)
    (fun i _ => zs.length - (intOf i).toNat)
  case atStart => 
    refine ⟨0, Nat.zero_le _, rfl, fun j hj => by omega, fun j _ hj => made_cell w zs.length j hj, fun j => ?_, by simp, (Below.refl _ _).alloc (Nat.le_refl _) _⟩
    simp
  case round =>
    obtain ⟨k, hk, rfl, hd, hu, hf, hsz, hnx⟩ := hrel
    have hcx : k < zs.length → wr.cell? ⟨b, off + k, none⟩ = some (.int .i64 (zs.getD k 0)) := fun h => (hnx.cell (by exact hb)).trans (hc k h)
    have hcu : k < zs.length → wr.cell? ⟨w.heap.size, k, none⟩ = some (.int .i64 0) := fun h => hu k (Nat.le_refl _) h
    have hfk := hf k
    go_wp2
    · have hlt : k < zs.length := by assumption
      have hz : zs[k] = zs.getD k 0 := by simp [hlt]
      refine ⟨⟨k + 1, by omega, by go_num, ?_, ?_, ?_, by simpa using hsz, hnx.setCell (by simp) _⟩, by simp [intOf]; omega⟩
      · intro j hj
        by_cases hjk : j = k
        · subst hjk; rw [World.cell?_setCell_same _ _ _ (hcu hlt), hz]
        · rw [World.cell?_setCell_other _ _ _ _ (by simp <;> omega)]; exact hd j (by omega)
      · intro j hj hjn
        rw [World.cell?_setCell_other _ _ _ _ (by simp <;> omega)]; exact hu j (by omega) hjn
      · intro j; rw [World.frozen?_setCell]; exact hf j
    · have hge : ¬ k < zs.length := by assumption
      have hkl : k = zs.length := by omega
      subst hkl
      go_ret
      exact ⟨_, rfl, rfl, hsz, hd, hnx⟩
/-- append(dst, s...): a string onto a row of the call's own -/
theorem appS {ops : Array Oper} {rest : List Oper} {o : Oper} {a : Act} {Q : Exit → Act → World → Prop} (hgd : o.guard = none) (s x : Operand)
    (ho : o.op = .call { callee := .builtin .append, args := #[s, x], argTypes := #[35, 9] })
    (B : Nat) (w0 w : World) (v : Value) (l m : List UInt8) (hs : a.eval s = v) (hx : a.eval x = .string ⟨m.toArray⟩)
    (hown : w.ownsRow B 5 1 v l.length (Lib.byteCells l)) (hb : Below B w0 w) (hB : B ≤ w.heap.size) (hl : l.length + m.length ≤ 140737488355328)
    (h : ∀ v' w', w'.ownsRow B 5 1 v' (l ++ m).length (Lib.byteCells (l ++ m)) → Below B w0 w' → wpList Tryr.prog ops Q rest (a.put o.dst v') w') :
    wpList Tryr.prog ops Q (o :: rest) a w := by
  obtain ⟨i0, hi, hz0, hz1, hz2⟩ := info_parts info5
  refine Lib.wpList_append_own_string w hgd s x 35 9 ho B 5 i0 Tryr.underlying35 Tryr.underlying9 hi hz0 hz1 hz2 v l.length (Lib.byteCells l) hs hown ⟨m.toArray⟩ hx ?_ ?_ ?_ ?_
  · have : (⟨m.toArray⟩ : ByteArray).size = m.length := by simp [ByteArray.size]
    unfold maxLen; omega
  · have : (⟨m.toArray⟩ : ByteArray).size = m.length := by simp [ByteArray.size]
    omega
  · exact hB
  · intro v' w' hown' hg _
    have e1 : (⟨m.toArray⟩ : ByteArray).size = m.length := by simp [ByteArray.size]
    have e2 : Lib.strCells ⟨m.toArray⟩ = Lib.byteCells m := by simp [Lib.strCells, Lib.byteCells]
    rw [e1, e2] at hown'
    refine h v' w' (by simpa [Lib.byteCells] using hown') ?_
    exact hb.grown hg hB (fun k hk => (hown.lt k hk).1)
theorem own_below {w w' : World} {B : Nat} {v : Value} {n : Nat} {xs : List Value} (h : w.ownsRow B 5 1 v n xs) (hb : Below w.heap.size w w') : w'.ownsRow B 5 1 v n xs :=
  ⟨h.1, h.2.imp id (fun ⟨g, cap, cur, h1, h2, h3, rest⟩ => ⟨g, cap, cur, h1, h2, (hb.block g (Array.getElem?_eq_some_iff.1 h3).1).trans h3, rest⟩)⟩
def ItoaC : Prop := ∀ n w, -9223372036854775808 ≤ n → n ≤ 9223372036854775807 → Calls Tryr.prog 6 #[.int .i64 n] w fun e w' => e = .returned (.string ⟨(Lib.itoa n).toArray⟩) ∧ Below w.heap.size w w'
theorem json_nil (w : World) : Calls Tryr.prog 9 #[.slice none 0 0] w fun e w' => e = .returned (.string ⟨[110, 117, 108, 108].toArray⟩) ∧ w' = w := by
  have hn := nilT
  go_enter Tryr.func9, Tryr.ntmps9
  go_wp2
  go_ret
  exact ⟨rfl, rfl⟩
theorem json_some (I : ItoaC) (b off : Nat) (cap : Nat) (zs : List Int) (hn1 : zs.length ≤ 131072) (w : World) (hb : b < w.heap.size) (hz : ∀ z ∈ zs, -9223372036854775808 ≤ z ∧ z ≤ 9223372036854775807) 
    (hc : ∀ j, j < zs.length → w.cell? ⟨b, off + j, none⟩ = some (.int .i64 (zs.getD j 0))) :
    Calls Tryr.prog 9 #[.slice (some ⟨b, off, none⟩) zs.length cap] w fun e w' => e = .returned (.string ⟨(J zs zs.length ++ [93]).toArray⟩) ∧ Below w.heap.size w w' := by
  have hn0 := nilF
  have hzg : ∀ k, k < zs.length → -9223372036854775808 ≤ zs.getD k 0 ∧ zs.getD k 0 ≤ 9223372036854775807 := by
    intro k hk
    refine hz _ ?_
    simp [List.getD_eq_getElem?_getD, List.getElem?_eq_getElem hk]
  obtain ⟨i0, hi, hz0, hz1, hz2⟩ := info_parts info5
  obtain ⟨w1, hm, ho1, hg1⟩ := run_make_own (P := Tryr.prog) w w.heap.size 35 5 i0 (.int .u8 0) 1 Tryr.underlying35 hi hz0 hz1 .i64 .i64 (21 * zs.length + 2) (by rw [hz2]; omega) (by unfold maxLen; omega) (Nat.le_refl _)
  have hm : (Instr.makeSlice 35 (.int .i64 0) (.int .i64 (21 * (zs.length : Int) + 2))).run Tryr.prog w = .ok (.slice (some ⟨w.heap.size, 0, none⟩) 0 (21 * zs.length + 2)) w1 := by simpa using hm
  have hb1 : Below w.heap.size w w1 := (Below.refl _ w).grown hg1 (Nat.le_refl _) (fun k hk => by cases hk)
  have hs1 := hb1.size
  go_enter Tryr.func9, Tryr.ntmps9
  go_wp2_with (first | (at_builtin; refine app1 rfl (.tmp 12) (.tmp 13) rfl w.heap.size w w1 _ [] 91 91 rfl rfl _ rfl rfl ho1 hb1 hs1 (by simp) ?_))
  intro v2 w2 ho2 hb2
  go_wp2
  clear hm hn0 hg1
  go_loopw [3, 4] (fun v i wr => ∃ k : Nat, k ≤ zs.length ∧ i = .int .i64 k ∧ wr.ownsRow w.heap.size 5 1 v (J zs k).length (Lib.byteCells (J zs k)) ∧ Below w.heap.size w wr)
    (fun _ i _ => zs.length - (intOf i).toNat)
  case atStart => exact ⟨0, Nat.zero_le _, rfl, ho2, hb2⟩
  case round =>
    obtain ⟨k, hk, rfl, hown, hnx⟩ := hrel
    have hJ := J_le zs hz k hk
    have hsz := hnx.size
    obtain ⟨x, hx⟩ : ∃ x, zs.getD k 0 = x := ⟨_, rfl⟩
    have hI0 : k < zs.length → -9223372036854775808 ≤ x ∧ x ≤ 9223372036854775807 := fun h => hx ▸ hzg k h
    have hcw : k < zs.length → w.cell? ⟨b, off + k, none⟩ = some (.int .i64 x) := fun h => hx ▸ hc k h
    have hcx : k < zs.length → wr.cell? ⟨b, off + k, none⟩ = some (.int .i64 x) := fun h => (hnx.cell (by exact hb)).trans (hcw h)
    have hJ1 : Hid (J zs (k + 1) = J zs k ++ sep k ++ Lib.itoa x) := by show J zs (k + 1) = _; simp only [J]; rw [hx]
    clear hx
    go_wp2_with (first | (at_builtin; refine app1 rfl (.tmp 23) (.tmp 24) rfl w.heap.size w _ _ (J zs k) 44 44 rfl rfl _ rfl rfl hown hnx hsz (by omega) ?_) | (at_builtin; refine app1 rfl (.tmp 33) (.tmp 34) rfl w.heap.size w _ _ (J zs k) 93 93 rfl rfl _ rfl rfl hown hnx hsz (by omega) ?_))
    · intro v2 w2 ho2 hb2
      have hk0 : 0 < k := by assumption
      have hlt : k < zs.length := by assumption
      have hsep : J zs k ++ [44] = J zs k ++ sep k := by unfold sep; rw [if_neg (by omega)]
      have ho2 : w2.ownsRow w.heap.size 5 1 v2 (J zs k ++ sep k).length (Lib.byteCells (J zs k ++ sep k)) := by rw [← hsep]; simpa using ho2
      have hJ2 : (J zs k ++ sep k).length ≤ 23 * 131072 := by have := sep_le k; simp; omega
      have hI := hI0 hlt
      have hcx2 : w2.cell? ⟨b, off + k, none⟩ = some (.int .i64 x) := (hb2.cell (by exact hb)).trans (hcw hlt)
      have hit := Lib.itoa_length_le _ hI.1 hI.2
      have hsz2 := hb2.size
      clear hcx hown
      have hl9 : (J zs k ++ sep k).length + (Lib.itoa x).length ≤ 140737488355328 := by omega
      go_wp2_with (first | (go_at_call 6; refine (I x w2 hI.1 hI.2).mono ?_; rintro e w3 ⟨rfl, hb3⟩) | (at_builtin; refine appS rfl (.tmp 26) (.tmp 31) rfl w.heap.size w _ v2 (J zs k ++ sep k) (Lib.itoa x) rfl rfl (own_below ho2 hb3) (hb2.trans (hb3.mono hsz2)) (Nat.le_trans hsz2 hb3.size) hl9 ?_))
      intro v5 w5 ho5 hb5
      have ho6 : w5.ownsRow w.heap.size 5 1 v5 (J zs (k + 1)).length (Lib.byteCells (J zs (k + 1))) := by rw [show J zs (k + 1) = _ from hJ1]; simpa [List.append_assoc] using ho5
      clear ho5
      go_wp2
      go_roundw
      case rel => exact ⟨k + 1, by omega, by go_num, ho6, hb5⟩
      case measure => simp [intOf]; omega
    · have hk0 : ¬ 0 < k := by assumption
      have hlt : k < zs.length := by assumption
      have hsep : J zs k = J zs k ++ sep k := by unfold sep; rw [if_pos (by omega)]; simp
      have ho2 : wr.ownsRow w.heap.size 5 1 u3 (J zs k ++ sep k).length (Lib.byteCells (J zs k ++ sep k)) := by rw [← hsep]; exact hown
      clear hsep
      have hb2 := hnx
      have hJ2 : (J zs k ++ sep k).length ≤ 23 * 131072 := by have := sep_le k; simp; omega
      have hI := hI0 hlt
      have hcx2 : wr.cell? ⟨b, off + k, none⟩ = some (.int .i64 x) := (hb2.cell (by exact hb)).trans (hcw hlt)
      have hit := Lib.itoa_length_le _ hI.1 hI.2
      have hsz2 := hb2.size
      clear hcx hown
      have hl9 : (J zs k ++ sep k).length + (Lib.itoa x).length ≤ 140737488355328 := by omega
      go_wp2_with (first | (go_at_call 6; refine (I x wr hI.1 hI.2).mono ?_; rintro e w3 ⟨rfl, hb3⟩) | (at_builtin; refine appS rfl (.tmp 26) (.tmp 31) rfl w.heap.size w _ u3 (J zs k ++ sep k) (Lib.itoa x) rfl rfl (own_below ho2 hb3) (hb2.trans (hb3.mono hsz2)) (Nat.le_trans hsz2 hb3.size) hl9 ?_))
      intro v5 w5 ho5 hb5
      have ho6 : w5.ownsRow w.heap.size 5 1 v5 (J zs (k + 1)).length (Lib.byteCells (J zs (k + 1))) := by rw [show J zs (k + 1) = _ from hJ1]; simpa [List.append_assoc] using ho5
      clear ho5
      go_wp2
      go_roundw
      case rel => exact ⟨k + 1, by omega, by go_num, ho6, hb5⟩
      case measure => simp [intOf]; omega
    · intro v2 w2 ho2 hb2
      have hge : ¬ k < zs.length := by assumption
      have hkl : k = zs.length := by omega
      subst hkl
      have hcv := conv_own w2 _ v2 (J zs zs.length ++ [93]) (by simpa using ho2)
      clear hcx hown
      go_wp2
      go_ret
      exact ⟨rfl, hb2⟩
theorem sappend_nil (a : Addr) (w : World) (ha : w.cell? a = some (.slice none 0 0)) :
    Calls Tryr.prog 11 #[.slice none 0 0, S a, .string ByteArray.empty, .int .i64 0] w fun e w' => ∃ v', e = .returned (.tuple #[v', .nilIface]) ∧ w'.ownsRow w.heap.size 5 1 v' [110, 117, 108, 108].length (Lib.byteCells [110, 117, 108, 108]) ∧ Below w.heap.size w w' := by
  have hab := World.block_lt_of_cell? w a ha
  have g1 := sIsValid a
  have g2 := sKind a
  have g3 := sCanI a
  have hc : (w.alloc (.cells #[typeHandle Tryr.prog 53, .pointer (some a), .int .u64 151] 63)).cell? a = some (.slice none 0 0) := by
    rw [World.cell?_alloc_lt _ _ _ hab]; exact ha
  have g4 := sIface a _ _ hc
  have g5 := sIsNil_yes a _ hc
  clear hc
  unfold S at *
  have t1 := fun (v : Value) (w : World) => (run_typeAssert_lacksB Tryr.underlying70 (by kernel_rfl) (by kernel_rfl) v 20 w : (Instr.typeAssert (.iface 53 v) 20 70 true).run Tryr.prog w = .ok (.tuple #[.nilIface, .bool false]) w)
  have t2 := fun (v : Value) (w : World) => (run_typeAssert_lacksB Tryr.underlying72 (by kernel_rfl) (by kernel_rfl) v 20 w : (Instr.typeAssert (.iface 53 v) 20 72 true).run Tryr.prog w = .ok (.tuple #[.nilIface, .bool false]) w)
  have t3 := fun (v : Value) (w : World) => (run_typeAssert_lacksB Tryr.underlying74 (by kernel_rfl) (by kernel_rfl) v 20 w : (Instr.typeAssert (.iface 53 v) 20 74 true).run Tryr.prog w = .ok (.tuple #[.nilIface, .bool false]) w)
  go_enter Tryr.func11, Tryr.ntmps11
  go_wp2_with (first | (at_builtin; refine appS rfl (.tmp 141) (.const (.string ⟨#[110, 117, 108, 108]⟩)) rfl w.heap.size w _ (.slice none 0 0) [] [110, 117, 108, 108] rfl rfl (World.ownsRow_nil _ _ _ _) ((Below.refl _ _).alloc (Nat.le_refl _) _) (by simp) (by simp) ?_))
  intro v2 w2 ho2 hb2
  go_wp2
  go_ret2
  exact ⟨v2, rfl, ho2, hb2⟩
theorem sappend_empty (a : Addr) (ad : Addr) (w : World) (ha : w.cell? a = some (.slice (some ad) 0 0)) :
    Calls Tryr.prog 11 #[.slice none 0 0, S a, .string ByteArray.empty, .int .i64 0] w fun e w' => ∃ v', e = .returned (.tuple #[v', .nilIface]) ∧ w'.ownsRow w.heap.size 5 1 v' [91, 93].length (Lib.byteCells [91, 93]) ∧ Below w.heap.size w w' := by
  have hab := World.block_lt_of_cell? w a ha
  have g1 := sIsValid a
  have g2 := sKind a
  have g3 := sCanI a
  have hc : (w.alloc (.cells #[typeHandle Tryr.prog 53, .pointer (some a), .int .u64 151] 63)).cell? a = some (.slice (some ad) 0 0) := by
    rw [World.cell?_alloc_lt _ _ _ hab]; exact ha
  have g4 := sIface a _ _ hc
  have g5 := sIsNil_no a _ _ _ _ hc
  have g6 := sType a
  have g7 := sElem'
  have g8 := sElemKind'
  have g9 := sLen a _ _ _ _ hc
  clear hc
  unfold S at *
  have t1 := fun (v : Value) (w : World) => (run_typeAssert_lacksB Tryr.underlying70 (by kernel_rfl) (by kernel_rfl) v 20 w : (Instr.typeAssert (.iface 53 v) 20 70 true).run Tryr.prog w = .ok (.tuple #[.nilIface, .bool false]) w)
  have t2 := fun (v : Value) (w : World) => (run_typeAssert_lacksB Tryr.underlying72 (by kernel_rfl) (by kernel_rfl) v 20 w : (Instr.typeAssert (.iface 53 v) 20 72 true).run Tryr.prog w = .ok (.tuple #[.nilIface, .bool false]) w)
  have t3 := fun (v : Value) (w : World) => (run_typeAssert_lacksB Tryr.underlying74 (by kernel_rfl) (by kernel_rfl) v 20 w : (Instr.typeAssert (.iface 53 v) 20 74 true).run Tryr.prog w = .ok (.tuple #[.nilIface, .bool false]) w)
  go_enter Tryr.func11, Tryr.ntmps11
  go_wp2_with (first | (at_builtin; refine appS rfl (.tmp 164) (.const (.string ⟨#[91, 93]⟩)) rfl w.heap.size w _ (.slice none 0 0) [] [91, 93] rfl rfl (World.ownsRow_nil _ _ _ _) ((Below.refl _ _).alloc (Nat.le_refl _) _) (by simp) (by simp) ?_))
  intro v2 w2 ho2 hb2
  go_wp2
  go_ret2
  exact ⟨v2, rfl, ho2, hb2⟩
/-- what the bytes l print: AppendGo hands them back in new memory -/
def Prints (a : List Value) (K : Nat) (w : World) (l : List UInt8) : Prop :=
  Calls Tryr.prog K a.toArray w fun e w' => ∃ v', e = .returned (.tuple #[v', .nilIface]) ∧ w'.ownsRow w.heap.size 5 1 v' l.length (Lib.byteCells l) ∧ Below w.heap.size w w'
theorem AppendGo_s (sv : Value) (hv : sv.cells = #[sv]) (l : List UInt8) (w : World)
    (H : Calls Tryr.prog 11 #[.slice none 0 0, S ⟨w.heap.size, 0, none⟩, .string ByteArray.empty, .int .i64 0] (w.alloc (.cells #[sv] 53)) fun e w' => ∃ v', e = .returned (.tuple #[v', .nilIface]) ∧ w'.ownsRow (w.alloc (.cells #[sv] 53)).heap.size 5 1 v' l.length (Lib.byteCells l) ∧ Below (w.alloc (.cells #[sv] 53)).heap.size (w.alloc (.cells #[sv] 53)) w') :
    Calls Tryr.prog 10 #[.slice none 0 0, .iface 53 sv, .string ByteArray.empty] w fun e w' => ∃ v', e = .returned (.tuple #[v', .nilIface]) ∧ w'.ownsRow w.heap.size 5 1 v' l.length (Lib.byteCells l) ∧ Below w.heap.size w w' := by
  have g := valueOf_s sv hv
  have hb := (Below.refl w.heap.size w).alloc (Nat.le_refl _) (.cells #[sv] 53)
  have hsz : w.heap.size ≤ (w.alloc (.cells #[sv] 53)).heap.size := hb.size
  generalize hW : w.alloc (.cells #[sv] 53) = W at *
  go_enter Tryr.func10, Tryr.ntmps10
  go_wp2_with fail
  refine H.mono ?_
  rintro e w1 ⟨v', rfl, ho, hb1⟩
  clear g H hv
  go_wp2
  go_ret2
  exact ⟨v', rfl, own_mono hsz ho, hb.trans (hb1.mono hsz)⟩
theorem String_s (sv : Value) (l : List UInt8) (w : World) (b : Nat) (hc : w.cell? ⟨b, 11, none⟩ = some (.iface 53 sv))
    (H : Calls Tryr.prog 10 #[.slice none 0 0, .iface 53 sv, .string ByteArray.empty] w fun e w' => ∃ v', e = .returned (.tuple #[v', .nilIface]) ∧ w'.ownsRow w.heap.size 5 1 v' l.length (Lib.byteCells l) ∧ Below w.heap.size w w') :
    Calls Tryr.prog 5 #[.pointer (some ⟨b, 0, none⟩)] w fun e w' => e = .returned (.string ⟨l.toArray⟩) ∧ Below w.heap.size w w' := by
  go_enter Tryr.func5, Tryr.ntmps5
  go_wp2_with fail
  refine H.mono ?_
  rintro e w1 ⟨v', rfl, ho, hb1⟩
  have hcv := conv_own w1 _ v' _ ho
  go_wp2
  go_ret
  exact ⟨rfl, hb1⟩
theorem String_nil (w : World) (b : Nat) (hc : w.cell? ⟨b, 11, none⟩ = some .nilIface) :
    Calls Tryr.prog 5 #[.pointer (some ⟨b, 0, none⟩)] w fun e w' => e = .returned (.string ⟨#[110, 105, 108]⟩) ∧ w' = w := by
  go_enter Tryr.func5, Tryr.ntmps5
  go_wp2_with fail
  go_ret
  exact ⟨rfl, rfl⟩
theorem zzBytes (p : Option Addr) (n c : Nat) (hn : (n : Int) ≤ 9223372036854775807) (w : World) :
    Calls Tryr.prog 7 #[.slice p n c] w fun e w' => ∃ bb, e = .returned (.bool bb) ∧ w' = w := by
  go_enter Tryr.func7, Tryr.ntmps7
  go_wp2_with fail
  all_goals (go_ret; exact ⟨_, rfl, rfl⟩)
theorem clone_empty (ad : Addr) (cap : Nat) (w : World) :
    Calls Tryr.prog 8 #[.slice (some ad) 0 cap] w fun e w' => ∃ g, e = .returned (.slice (some ⟨g, 0, none⟩) 0 0) ∧ g = w.heap.size ∧ g < w'.heap.size ∧ Below w.heap.size w w' := by
  have hn0 := nilF
  have hm : ∀ w : World, (Instr.makeSlice 53 (.int .i64 0) (.int .i64 0)).run Tryr.prog w = .ok (.slice (some ⟨w.heap.size, 0, none⟩) 0 0) (w.alloc (.cells (madeCells #[.int .i64 0] 0) 2)) := run_make_row' (P := Tryr.prog) 53 2 (.int .i64 0) 8 Tryr.underlying53 info2 rfl .i64 .i64 0 (by omega) (by omega)
  go_enter Tryr.func8, Tryr.ntmps8
  go_wp2
  refine wp_loop_rounds 1 ?_
  rw [rounds_succ]
  go_wp2
  go_ret
  exact ⟨_, rfl, rfl, by simp, (Below.refl _ _).alloc (Nat.le_refl _) _⟩
theorem String_some (C : AppendIntC) (zs : List Int) (hz : ∀ z ∈ zs, -9223372036854775808 ≤ z ∧ z ≤ 9223372036854775807) (hlen : zs.length ≤ 131072) (w : World) (b g : Nat) (hg : g < w.heap.size)
    (hc : w.cell? ⟨b, 11, none⟩ = some (.iface 53 (.slice (some ⟨g, 0, none⟩) zs.length zs.length)))
    (he : ∀ j, j < zs.length → w.cell? ⟨g, j, none⟩ = some (.int .i64 (zs.getD j 0)))
    (htab : Lib.TabBelow Tryr.prog w.heap.size w "internal/strconv.uint64pow10" .u64 Lib.pow10Tab) :
    Calls Tryr.prog 5 #[.pointer (some ⟨b, 0, none⟩)] w fun e w' => e = .returned (.string ⟨(J zs zs.length ++ [93]).toArray⟩) ∧ Below w.heap.size w w' := by
  refine String_s _ _ w b hc (AppendGo_s _ rfl _ w ?_)
  have hb := (Below.refl w.heap.size w).alloc (Nat.le_refl _) (.cells #[.slice (some ⟨g, 0, none⟩) zs.length zs.length] 53)
  have ha : (w.alloc (.cells #[.slice (some ⟨g, 0, none⟩) zs.length zs.length] 53)).cell? ⟨w.heap.size, 0, none⟩ = some (.slice (some ⟨g, 0, none⟩) zs.length zs.length) := by simp
  rcases Nat.eq_zero_or_pos zs.length with h0 | h0
  · have hnil : zs = [] := List.length_eq_zero_iff.1 h0
    subst hnil
    exact sappend_empty _ _ _ ha
  · refine sappend C _ g zs _ hz hlen h0 ha (fun j hj => (hb.cell (by exact hg)).trans (he j hj)) ?_
    intro w' h'
    exact htab w' (hb.trans (h'.mono hb.size))
theorem String_nilSlice (w : World) (b : Nat) 
    (hc : w.cell? ⟨b, 11, none⟩ = some (.iface 53 (.slice none 0 0))) :
    Calls Tryr.prog 5 #[.pointer (some ⟨b, 0, none⟩)] w fun e w' => e = .returned (.string ⟨[110, 117, 108, 108].toArray⟩) ∧ Below w.heap.size w w' := by
  refine String_s _ _ w b hc (AppendGo_s _ rfl _ w ?_)
  exact sappend_nil _ _ (by simp)
def node (v : Value) : Obj := .cells #[.int .i64 0, .int .i64 0, .nilIface, .int .u64 0, .pointer none, .pointer none, .bool false, .bool false, .bool false, .bool false, .bool false, v] 49
theorem law_nil (w : World) : Calls Tryr.prog 4 #[.slice none 0 0] w fun e w' => e = .returned (.bool true) ∧ Below w.heap.size w w' := by
  go_enter Tryr.func4, Tryr.ntmps4
  go_wp2_with (first | (go_at_call 7; refine (zzBytes none 0 0 (by decide) w).mono ?_; rintro e w1 ⟨bb, rfl, hw1⟩; cases hw1) | (go_at_call 8; refine (clone_nil _).mono ?_; rintro e w1 ⟨rfl, hw1⟩; cases hw1))
  · go_ret; exact ⟨rfl, Below.refl _ _⟩
  have hb1 := (Below.refl w.heap.size w).alloc (Nat.le_refl _) (.cells #[.int .i64 0, .int .i64 0, .nilIface, .int .u64 0, .pointer none, .pointer none, .bool false, .bool false, .bool false, .bool false, .bool false, .nilIface] 49)
  refine (String_nil _ w.heap.size (by simp)).mono ?_
  rintro e w2 ⟨rfl, hw2⟩
  rw [← hw2] at hb1
  clear hw2
  go_wp2_with fail
  have hb2 := hb1.alloc hb1.size (.cells #[.int .i64 0, .int .i64 0, .nilIface, .int .u64 0, .pointer none, .pointer none, .bool false, .bool false, .bool false, .bool false, .bool false, (.iface 53 (.slice none 0 0))] 49)
  refine (String_nilSlice _ w2.heap.size (by simp)).mono ?_
  rintro e w3 ⟨rfl, hb3⟩
  have hb4 := hb2.trans (hb3.mono hb2.size)
  clear hb1 hb2 hb3
  go_wp2_with fail
  refine (json_nil _).mono ?_
  rintro e w4 ⟨rfl, hw4⟩
  rw [← hw4] at hb4
  clear hw4
  go_wp2
  go_ret
  exact ⟨by simp, hb4⟩
theorem law_some (C : AppendIntC) (I : ItoaC) (p : Option Addr) (cap : Nat) (zs : List Int) (hz : ∀ z ∈ zs, -9223372036854775808 ≤ z ∧ z ≤ 9223372036854775807) (hlen : (zs.length : Int) ≤ 9223372036854775807) (w : World)
    (htab : Lib.TabBelow Tryr.prog w.heap.size w "internal/strconv.uint64pow10" .u64 Lib.pow10Tab)
    (HC : zs.length ≤ 131072 → Calls Tryr.prog 8 #[.slice p zs.length cap] w fun e w' => ∃ g, e = .returned (.slice (some ⟨g, 0, none⟩) zs.length zs.length) ∧ g = w.heap.size ∧ g < w'.heap.size ∧
      (∀ j, j < zs.length → w'.cell? ⟨g, j, none⟩ = some (.int .i64 (zs.getD j 0))) ∧ Below w.heap.size w w') :
    Calls Tryr.prog 4 #[.slice p zs.length cap] w fun e w' => e = .returned (.bool true) ∧ Below w.heap.size w w' := by
  go_enter Tryr.func4, Tryr.ntmps4
  go_wp2_with (first | (go_at_call 7; refine (zzBytes p zs.length cap hlen w).mono ?_; rintro e w1 ⟨bb, rfl, hw1⟩; cases hw1))
  · go_ret; exact ⟨rfl, Below.refl _ _⟩
  · go_ret; exact ⟨rfl, Below.refl _ _⟩
  have hn1 : zs.length ≤ 131072 := by rename_i h; first | (simp at h; omega) | omega
  refine (HC hn1).mono ?_
  rintro e w1 ⟨g, rfl, hg, hgs, hcl, hb1⟩
  clear HC hg
  go_wp2_with fail
  have hb2 := hb1.alloc hb1.size (.cells #[.int .i64 0, .int .i64 0, .nilIface, .int .u64 0, .pointer none, .pointer none, .bool false, .bool false, .bool false, .bool false, .bool false, .nilIface] 49)
  have hgs2 : g < (w1.alloc (.cells #[.int .i64 0, .int .i64 0, .nilIface, .int .u64 0, .pointer none, .pointer none, .bool false, .bool false, .bool false, .bool false, .bool false, .nilIface] 49)).heap.size := by simp; omega
  have hcl2 : ∀ j, j < zs.length → (w1.alloc (.cells #[.int .i64 0, .int .i64 0, .nilIface, .int .u64 0, .pointer none, .pointer none, .bool false, .bool false, .bool false, .bool false, .bool false, .nilIface] 49)).cell? ⟨g, j, none⟩ = some (.int .i64 (zs.getD j 0)) := fun j hj => by rw [World.cell?_alloc_lt _ _ _ hgs]; exact hcl j hj
  refine (String_nil _ w1.heap.size (by simp)).mono ?_
  rintro e w2 ⟨rfl, hw2⟩
  rw [← hw2] at hb2 hgs2 hcl2
  clear hw2 hcl hb1 hgs
  go_wp2_with fail
  have hb3 := hb2.alloc hb2.size (.cells #[.int .i64 0, .int .i64 0, .nilIface, .int .u64 0, .pointer none, .pointer none, .bool false, .bool false, .bool false, .bool false, .bool false, (.iface 53 (.slice (some ⟨g, 0, none⟩) zs.length zs.length))] 49)
  have hgs3 : g < (w2.alloc (.cells #[.int .i64 0, .int .i64 0, .nilIface, .int .u64 0, .pointer none, .pointer none, .bool false, .bool false, .bool false, .bool false, .bool false, (.iface 53 (.slice (some ⟨g, 0, none⟩) zs.length zs.length))] 49)).heap.size := by simp; omega
  have hcl3 : ∀ j, j < zs.length → (w2.alloc (.cells #[.int .i64 0, .int .i64 0, .nilIface, .int .u64 0, .pointer none, .pointer none, .bool false, .bool false, .bool false, .bool false, .bool false, (.iface 53 (.slice (some ⟨g, 0, none⟩) zs.length zs.length))] 49)).cell? ⟨g, j, none⟩ = some (.int .i64 (zs.getD j 0)) := fun j hj => by rw [World.cell?_alloc_lt _ _ _ hgs2]; exact hcl2 j hj
  refine (String_some C zs hz hn1 _ w2.heap.size g hgs3 (by simp) hcl3 (tab_on htab hb3)).mono ?_
  rintro e w3 ⟨rfl, hb4⟩
  have hb5 := hb3.trans (hb4.mono hb3.size)
  have hcl4 : ∀ j, j < zs.length → w3.cell? ⟨g, 0 + j, none⟩ = some (.int .i64 (zs.getD j 0)) := fun j hj => by rw [Nat.zero_add]; exact (hb4.cell (by exact hgs3)).trans (hcl3 j hj)
  have hgs4 : g < w3.heap.size := Nat.lt_of_lt_of_le hgs3 hb4.size
  clear hb3 hb4 hcl3 hcl2 hb2
  go_wp2_with fail
  refine (json_some I g 0 zs.length zs hn1 w3 hgs4 hz hcl4).mono ?_
  rintro e w4 ⟨rfl, hb6⟩
  have hb7 := hb5.trans (hb6.mono hb5.size)
  go_wp2
  go_ret
  exact ⟨by simp, hb7⟩
end Go.Proofs.YtddimfehmmnaeaaReflDoor.ext4
