/-
The law's walk: FnIsNumberPromote returns true whatever its two numbers are. No condition.
-/
import Derived.Test.YtikelicjllfgeaaReflNatC
namespace Go.Proofs.YtikelicjllfgeaaRefl.nat
open Go Go.Proofs Go.RowKit
set_option maxRecDepth 100000
set_option maxHeartbeats 4000000
def isNum (a : Int) : Bool := decide (0 ≤ a) && decide (a ≤ 12)
def isFlt (a : Int) : Bool := a == 11 || a == 12
theorem num (a : Int) (w : World) : Calls Tryr.prog 4 #[.int .i64 a] w fun e w' => e = .returned (.tuple #[.bool (isNum a), .bool (isFlt a)]) ∧ w' = w := by
  unfold isNum isFlt
  by_cases h0 : 0 ≤ a
  · by_cases h1 : a ≤ 10
    · have e1 : (a == 11) = false := by rw [beq_eq_false_iff_ne]; omega
      have e2 : (a == 12) = false := by rw [beq_eq_false_iff_ne]; omega
      have e3 : a ≤ 12 := by omega
      go_enter Tryr.func4, Tryr.ntmps4
      go_wp2
      go_ret2
      exact ⟨by simp [h0, e1, e2, e3], rfl⟩
    · by_cases h2 : a = 11
      · subst h2
        go_enter Tryr.func4, Tryr.ntmps4
        go_wp2
        go_ret2
        exact ⟨rfl, rfl⟩
      · by_cases h3 : a = 12
        · subst h3
          go_enter Tryr.func4, Tryr.ntmps4
          go_wp2
          go_ret2
          exact ⟨rfl, rfl⟩
        · have e1 : (a == 11) = false := by rw [beq_eq_false_iff_ne]; exact h2
          have e2 : (a == 12) = false := by rw [beq_eq_false_iff_ne]; exact h3
          have e3 : ¬ a ≤ 12 := by omega
          go_enter Tryr.func4, Tryr.ntmps4
          go_wp2
          go_ret2
          exact ⟨by simp [e3], rfl⟩
  · have e1 : (a == 11) = false := by rw [beq_eq_false_iff_ne]; omega
    have e2 : (a == 12) = false := by rw [beq_eq_false_iff_ne]; omega
    go_enter Tryr.func4, Tryr.ntmps4
    go_wp2
    go_ret2
    exact ⟨by simp; omega, rfl⟩
theorem code (a : Int) (h : isNum a = true) : ∃ (t k : Nat) (i f : Bool), ((k : Int) == 20) = false ∧ (i || f) = true ∧ (i = !f ∧ f = isFlt a) ∧ ∀ w, Calls Tryr.prog 5 #[.int .i64 a] w fun e w' => e = .returned (.agg #[.iface 89 (.pointer (some ⟨0, t, none⟩)), .int .u64 k, .pointer none, .pointer none, .bool false, .bool false, .bool false, .bool i, .bool f]) ∧ w' = (((((w.alloc (.cells #[.iface 89 (.pointer (some ⟨0, t, none⟩)), .int .u64 k, .pointer none, .pointer none, .bool false, .bool false, .bool false, .bool i, .bool f] 49)).alloc (.cells #[.iface 89 (.pointer (some ⟨0, t, none⟩)), .int .u64 k, .pointer none, .pointer none, .bool false, .bool false, .bool false, .bool i, .bool f] 49)).alloc (.cells #[.iface 89 (.pointer (some ⟨0, t, none⟩)), .int .u64 k, .pointer none, .pointer none, .bool false, .bool false, .bool false, .bool i, .bool f] 49)).alloc (.cells #[.iface 89 (.pointer (some ⟨0, t, none⟩)), .int .u64 k, .pointer none, .pointer none, .bool false, .bool false, .bool false, .bool i, .bool f] 49)).alloc (.cells #[.iface 89 (.pointer (some ⟨0, t, none⟩)), .int .u64 k, .pointer none, .pointer none, .bool false, .bool false, .bool false, .bool i, .bool f] 49)) := by
  have h1 : a = 0 ∨ a = 1 ∨ a = 2 ∨ a = 3 ∨ a = 4 ∨ a = 5 ∨ a = 6 ∨ a = 7 ∨ a = 8 ∨ a = 9 ∨ a = 10 ∨ a = 11 ∨ a = 12 := by
    simp [isNum] at h; omega
  rcases h1 with rfl | rfl | rfl | rfl | rfl | rfl | rfl | rfl | rfl | rfl | rfl | rfl | rfl
  · refine ⟨_, _, _, _, ?_, ?_, ⟨?_, ?_⟩, fun w => code_int w⟩ <;> rfl
  · refine ⟨_, _, _, _, ?_, ?_, ⟨?_, ?_⟩, fun w => code_int8 w⟩ <;> rfl
  · refine ⟨_, _, _, _, ?_, ?_, ⟨?_, ?_⟩, fun w => code_int16 w⟩ <;> rfl
  · refine ⟨_, _, _, _, ?_, ?_, ⟨?_, ?_⟩, fun w => code_int32 w⟩ <;> rfl
  · refine ⟨_, _, _, _, ?_, ?_, ⟨?_, ?_⟩, fun w => code_int64 w⟩ <;> rfl
  · refine ⟨_, _, _, _, ?_, ?_, ⟨?_, ?_⟩, fun w => code_uint w⟩ <;> rfl
  · refine ⟨_, _, _, _, ?_, ?_, ⟨?_, ?_⟩, fun w => code_uint8 w⟩ <;> rfl
  · refine ⟨_, _, _, _, ?_, ?_, ⟨?_, ?_⟩, fun w => code_uint16 w⟩ <;> rfl
  · refine ⟨_, _, _, _, ?_, ?_, ⟨?_, ?_⟩, fun w => code_uint32 w⟩ <;> rfl
  · refine ⟨_, _, _, _, ?_, ?_, ⟨?_, ?_⟩, fun w => code_uint64 w⟩ <;> rfl
  · refine ⟨_, _, _, _, ?_, ?_, ⟨?_, ?_⟩, fun w => code_uintptr w⟩ <;> rfl
  · refine ⟨_, _, _, _, ?_, ?_, ⟨?_, ?_⟩, fun w => code_float32 w⟩ <;> rfl
  · refine ⟨_, _, _, _, ?_, ?_, ⟨?_, ?_⟩, fun w => code_float64 w⟩ <;> rfl
/-- the nature's nine cells stand in block b -/
structure Has (w : World) (b t k : Nat) (i f : Bool) : Prop where
  c0 : w.cell? ⟨b, 0, none⟩ = some (.iface 89 (.pointer (some ⟨0, t, none⟩)))
  c1 : w.cell? ⟨b, 1, none⟩ = some (.int .u64 k)
  c2 : w.cell? ⟨b, 2, none⟩ = some (.pointer none)
  c3 : w.cell? ⟨b, 3, none⟩ = some (.pointer none)
  c4 : w.cell? ⟨b, 4, none⟩ = some (.bool false)
  c5 : w.cell? ⟨b, 5, none⟩ = some (.bool false)
  c6 : w.cell? ⟨b, 6, none⟩ = some (.bool false)
  c7 : w.cell? ⟨b, 7, none⟩ = some (.bool i)
  c8 : w.cell? ⟨b, 8, none⟩ = some (.bool f)
theorem Has.kept {w w' : World} {b t k : Nat} {i f : Bool} (h : Has w b t k i f) (hb : Below w.heap.size w w') : Has w' b t k i f :=
  ⟨(hb.cell (World.block_lt_of_cell? w _ h.c0)).trans h.c0, (hb.cell (World.block_lt_of_cell? w _ h.c1)).trans h.c1, (hb.cell (World.block_lt_of_cell? w _ h.c2)).trans h.c2, (hb.cell (World.block_lt_of_cell? w _ h.c3)).trans h.c3, (hb.cell (World.block_lt_of_cell? w _ h.c4)).trans h.c4, (hb.cell (World.block_lt_of_cell? w _ h.c5)).trans h.c5, (hb.cell (World.block_lt_of_cell? w _ h.c6)).trans h.c6, (hb.cell (World.block_lt_of_cell? w _ h.c7)).trans h.c7, (hb.cell (World.block_lt_of_cell? w _ h.c8)).trans h.c8⟩
theorem Has.on {w : World} {b t k : Nat} {i f : Bool} (o : Obj) (h : Has w b t k i f) : Has (w.alloc o) b t k i f :=
  ⟨up h.c0, up h.c1, up h.c2, up h.c3, up h.c4, up h.c5, up h.c6, up h.c7, up h.c8⟩
theorem Has.fresh (w : World) (t k : Nat) (i f : Bool) : Has (w.alloc (.cells #[.iface 89 (.pointer (some ⟨0, t, none⟩)), .int .u64 k, .pointer none, .pointer none, .bool false, .bool false, .bool false, .bool i, .bool f] 49)) w.heap.size t k i f :=
  ⟨by simp, by simp, by simp, by simp, by simp, by simp, by simp, by simp, by simp⟩
theorem codeB (a : Int) (h : isNum a = true) : ∃ (t k : Nat) (i f : Bool), ((k : Int) == 20) = false ∧ (i || f) = true ∧ (i = !f ∧ f = isFlt a) ∧ ∀ w, Calls Tryr.prog 5 #[.int .i64 a] w fun e w' => e = .returned (.agg #[.iface 89 (.pointer (some ⟨0, t, none⟩)), .int .u64 k, .pointer none, .pointer none, .bool false, .bool false, .bool false, .bool i, .bool f]) ∧ Below w.heap.size w w' := by
  obtain ⟨t, k, i, f, h1, h2, h3, h4⟩ := code a h
  refine ⟨t, k, i, f, h1, h2, h3, fun w => (h4 w).mono ?_⟩
  rintro e w' ⟨he, rfl⟩
  exact ⟨he, by go_grown⟩
theorem cmp {w : World} {b t k t' k' : Nat} {i f i' f' : Bool} (cv : Value) (h : Has w b t k i f) (hk : ((k : Int) == 20) = false) (hk' : ((k' : Int) == 20) = false) (hn : (i || f) = true) (hn' : (i' || f') = true) :
    Calls Tryr.prog 7 #[.pointer (some ⟨b, 0, none⟩), cv, (.agg #[.iface 89 (.pointer (some ⟨0, t', none⟩)), .int .u64 k', .pointer none, .pointer none, .bool false, .bool false, .bool false, .bool i', .bool f'])] w fun e w' => e = .returned (.bool true) ∧ Below w.heap.size w w' := by
  refine (comparableTo b t k t' k' i f i' f' cv w h.c0 h.c1 h.c4 h.c7 h.c8 hk hk' hn hn').mono ?_
  rintro e w' ⟨he, rfl⟩
  exact ⟨he, by go_grown⟩
theorem prom {w : World} {b t k t' k' : Nat} {i f i' f' : Bool} (cv : Value) (h : Has w b t k i f) (hk : ((k : Int) == 20) = false) (hk' : ((k' : Int) == 20) = false) (g : Bool) (hg : (f || f') = g) :
    Calls Tryr.prog 8 #[.pointer (some ⟨b, 0, none⟩), cv, (.agg #[.iface 89 (.pointer (some ⟨0, t', none⟩)), .int .u64 k', .pointer none, .pointer none, .bool false, .bool false, .bool false, .bool i', .bool f'])] w fun e w' => e = .returned (if g then (.agg #[.iface 89 (.pointer (some ⟨0, 27, none⟩)), .int .u64 14, .pointer none, .pointer none, .bool false, .bool false, .bool false, .bool false, .bool true]) else (.agg #[.iface 89 (.pointer (some ⟨0, 3, none⟩)), .int .u64 2, .pointer none, .pointer none, .bool false, .bool false, .bool false, .bool true, .bool false])) ∧ Below w.heap.size w w' := by
  subst hg
  refine (promote b t k t' k' f i' f' cv w h.c0 h.c1 h.c8 hk hk').mono ?_
  rintro e w' ⟨he, hw⟩
  refine ⟨he, ?_⟩
  cases hff : (f || f') <;> simp only [hff, Bool.false_eq_true, if_false, if_true] at hw <;> subst hw <;> go_grown
theorem code0 (w : World) : Calls Tryr.prog 5 #[.int .i64 0] w fun e w' => e = .returned (.agg #[.iface 89 (.pointer (some ⟨0, 3, none⟩)), .int .u64 2, .pointer none, .pointer none, .bool false, .bool false, .bool false, .bool true, .bool false]) ∧ Below w.heap.size w w' := by
  refine (code_int w).mono ?_
  rintro e w' ⟨he, rfl⟩
  exact ⟨he, by go_grown⟩
theorem code12 (w : World) : Calls Tryr.prog 5 #[.int .i64 12] w fun e w' => e = .returned (.agg #[.iface 89 (.pointer (some ⟨0, 27, none⟩)), .int .u64 14, .pointer none, .pointer none, .bool false, .bool false, .bool false, .bool false, .bool true]) ∧ Below w.heap.size w w' := by
  refine (code_float64 w).mono ?_
  rintro e w' ⟨he, rfl⟩
  exact ⟨he, by go_grown⟩
theorem fieldI (w : World) : (Instr.field 49 (.agg #[.iface 89 (.pointer (some ⟨0, 3, none⟩)), .int .u64 2, .pointer none, .pointer none, .bool false, .bool false, .bool false, .bool true, .bool false]) 1).run Tryr.prog w = .ok (.int .u64 2) w := by kernel_rfl
theorem fieldF (w : World) : (Instr.field 49 (.agg #[.iface 89 (.pointer (some ⟨0, 27, none⟩)), .int .u64 14, .pointer none, .pointer none, .bool false, .bool false, .bool false, .bool false, .bool true]) 1).run Tryr.prog w = .ok (.int .u64 14) w := by kernel_rfl
theorem law_walk (a b : Int) (w : World) : Calls Tryr.prog 3 #[.int .i64 a, .int .i64 b] w fun e w' => e = .returned (.bool true) ∧ Below w.heap.size w w' := by
  go_enter Tryr.func3, Tryr.ntmps3
  go_wp2_with fail
  refine (num a w).mono ?_
  rintro e w0 ⟨rfl, rfl⟩
  go_wp2_with fail
  refine (num b w0).mono ?_
  rintro e w0 ⟨rfl, rfl⟩
  cases ha : isNum a
  · go_wp2
    go_ret
    exact ⟨rfl, Below.refl _ _⟩
  cases hb : isNum b
  · go_wp2
    go_ret
    exact ⟨rfl, Below.refl _ _⟩
  obtain ⟨t, k, i, f, hk, hn, ⟨hif, hf⟩, hA⟩ := codeB a ha
  obtain ⟨t', k', i', f', hk', hn', ⟨hif', hf'⟩, hB⟩ := codeB b hb
  rw [← hf, ← hf']
  clear hf hf' ha hb hif hif'
  have fI := fieldI
  have fF := fieldF
  go_wp2_with fail
  have B0 := (Below.refl w0.heap.size w0).alloc (Nat.le_refl _) (.cells #[.map none, .map none] 42)
  refine (hA _).mono ?_
  rintro e w1 ⟨rfl, hb1⟩
  have B1 := (B0.trans (hb1.mono B0.size)).alloc (B0.trans (hb1.mono B0.size)).size (.cells #[.iface 89 (.pointer (some ⟨0, t, none⟩)), .int .u64 k, .pointer none, .pointer none, .bool false, .bool false, .bool false, .bool i, .bool f] 49)
  have HX1 := Has.fresh w1 t k i f
  clear hb1 B0
  go_wp2_with fail
  refine (hB _).mono ?_
  rintro e w2 ⟨rfl, hb2⟩
  have B2 := (B1.trans (hb2.mono B1.size)).alloc (B1.trans (hb2.mono B1.size)).size (.cells #[.iface 89 (.pointer (some ⟨0, t', none⟩)), .int .u64 k', .pointer none, .pointer none, .bool false, .bool false, .bool false, .bool i', .bool f'] 49)
  have HX2 := (HX1.kept hb2).on (.cells #[.iface 89 (.pointer (some ⟨0, t', none⟩)), .int .u64 k', .pointer none, .pointer none, .bool false, .bool false, .bool false, .bool i', .bool f'] 49)
  have HY2 := Has.fresh w2 t' k' i' f'
  clear hb2 B1 HX1
  go_wp2_with fail
  refine (isNumber _ _ _ _ HX2.c7 HX2.c8).mono ?_
  rintro e w3 ⟨rfl, rfl⟩
  rw [hn]
  go_wp2_with fail
  refine (isNumber _ _ _ _ HY2.c7 HY2.c8).mono ?_
  rintro e w3 ⟨rfl, rfl⟩
  rw [hn']
  go_wp2_with fail
  refine (cmp _ HX2 hk hk' hn hn').mono ?_
  rintro e w3 ⟨rfl, hb3⟩
  have HX3 := HX2.kept hb3
  have HY3 := HY2.kept hb3
  have B3 := B2.trans (hb3.mono B2.size)
  clear hb3 B2 HX2 HY2
  have hc_ := HX3
  obtain ⟨x0, x1, x2, x3, x4, x5, x6, x7, x8⟩ := hc_
  have HX := HX3
  go_wp2_with fail
  refine (cmp _ HY3 hk' hk hn' hn).mono ?_
  rintro e w4 ⟨rfl, hb4⟩
  have HX4 := HX.kept hb4
  have HY4 := HY3.kept hb4
  have B4 := B3.trans (hb4.mono B3.size)
  clear x0 x1 x2 x3 x4 x5 x6 x7 x8
  clear hb4 HX HY3 B3
  have hc_ := HY4
  obtain ⟨y0, y1, y2, y3, y4, y5, y6, y7, y8⟩ := hc_
  have HX := HX4
  have HY := HY4
  go_wp2_with fail
  clear y0 y1 y2 y3 y4 y5 y6 y7 y8
  cases f <;> cases f'
  · refine (prom _ HX hk hk' false rfl).mono ?_
    rintro e w5 ⟨rfl, hb5⟩
    have HX5 := (HX.kept hb5).on (.cells #[.iface 89 (.pointer (some ⟨0, 3, none⟩)), .int .u64 2, .pointer none, .pointer none, .bool false, .bool false, .bool false, .bool true, .bool false] 49)
    have HY5 := (HY.kept hb5).on (.cells #[.iface 89 (.pointer (some ⟨0, 3, none⟩)), .int .u64 2, .pointer none, .pointer none, .bool false, .bool false, .bool false, .bool true, .bool false] 49)
    have HP5 := Has.fresh w5 3 2 true false
    have B5 := (B4.trans (hb5.mono B4.size)).alloc (B4.trans (hb5.mono B4.size)).size (.cells #[.iface 89 (.pointer (some ⟨0, 3, none⟩)), .int .u64 2, .pointer none, .pointer none, .bool false, .bool false, .bool false, .bool true, .bool false] 49)
    clear hb5 HX HY B4
    have hc_ := HX5
    obtain ⟨x0, x1, x2, x3, x4, x5, x6, x7, x8⟩ := hc_
    go_wp2_with fail
    refine (prom _ HY5 hk' hk false rfl).mono ?_
    rintro e w6 ⟨rfl, hb6⟩
    have HP6 := (HP5.kept hb6).on (.cells #[.iface 89 (.pointer (some ⟨0, 3, none⟩)), .int .u64 2, .pointer none, .pointer none, .bool false, .bool false, .bool false, .bool true, .bool false] 49)
    have HQ6 := Has.fresh w6 3 2 true false
    have B6 := (B5.trans (hb6.mono B5.size)).alloc (B5.trans (hb6.mono B5.size)).size (.cells #[.iface 89 (.pointer (some ⟨0, 3, none⟩)), .int .u64 2, .pointer none, .pointer none, .bool false, .bool false, .bool false, .bool true, .bool false] 49)
    clear hb6 HY5 HP5 B5 HX5
    clear x0 x1 x2 x3 x4 x5 x6 x7 x8
    go_wp2_with fail
    refine (isNumber _ _ _ _ HP6.c7 HP6.c8).mono ?_
    rintro e w7 ⟨rfl, rfl⟩
    simp only [Bool.or_false]
    go_wp2_with fail
    refine (isNumber _ _ _ _ HQ6.c7 HQ6.c8).mono ?_
    rintro e w7 ⟨rfl, rfl⟩
    simp only [Bool.or_false]
    have hc_ := HP6
    obtain ⟨p0, p1, p2, p3, p4, p5, p6, p7, p8⟩ := hc_
    have hc_ := HQ6
    obtain ⟨q0, q1, q2, q3, q4, q5, q6, q7, q8⟩ := hc_
    go_wp2_with fail
    refine (code0 _).mono ?_
    rintro e w8 ⟨rfl, hb8⟩
    have HP8 := HP6.kept hb8
    have HQ8 := HQ6.kept hb8
    have B8 := B6.trans (hb8.mono B6.size)
    clear HP6 HQ6 hb8 B6
    clear p0 p1 p2 p3 p4 p5 p6 p7 p8 q0 q1 q2 q3 q4 q5 q6 q7 q8
    have hc_ := HP8
    obtain ⟨p0, p1, p2, p3, p4, p5, p6, p7, p8⟩ := hc_
    have hc_ := HQ8
    obtain ⟨q0, q1, q2, q3, q4, q5, q6, q7, q8⟩ := hc_
    go_wp2
    go_ret
    exact ⟨rfl, B8⟩
  · refine (prom _ HX hk hk' true rfl).mono ?_
    rintro e w5 ⟨rfl, hb5⟩
    have HX5 := (HX.kept hb5).on (.cells #[.iface 89 (.pointer (some ⟨0, 27, none⟩)), .int .u64 14, .pointer none, .pointer none, .bool false, .bool false, .bool false, .bool false, .bool true] 49)
    have HY5 := (HY.kept hb5).on (.cells #[.iface 89 (.pointer (some ⟨0, 27, none⟩)), .int .u64 14, .pointer none, .pointer none, .bool false, .bool false, .bool false, .bool false, .bool true] 49)
    have HP5 := Has.fresh w5 27 14 false true
    have B5 := (B4.trans (hb5.mono B4.size)).alloc (B4.trans (hb5.mono B4.size)).size (.cells #[.iface 89 (.pointer (some ⟨0, 27, none⟩)), .int .u64 14, .pointer none, .pointer none, .bool false, .bool false, .bool false, .bool false, .bool true] 49)
    clear hb5 HX HY B4
    have hc_ := HX5
    obtain ⟨x0, x1, x2, x3, x4, x5, x6, x7, x8⟩ := hc_
    go_wp2_with fail
    refine (prom _ HY5 hk' hk true rfl).mono ?_
    rintro e w6 ⟨rfl, hb6⟩
    have HP6 := (HP5.kept hb6).on (.cells #[.iface 89 (.pointer (some ⟨0, 27, none⟩)), .int .u64 14, .pointer none, .pointer none, .bool false, .bool false, .bool false, .bool false, .bool true] 49)
    have HQ6 := Has.fresh w6 27 14 false true
    have B6 := (B5.trans (hb6.mono B5.size)).alloc (B5.trans (hb6.mono B5.size)).size (.cells #[.iface 89 (.pointer (some ⟨0, 27, none⟩)), .int .u64 14, .pointer none, .pointer none, .bool false, .bool false, .bool false, .bool false, .bool true] 49)
    clear hb6 HY5 HP5 B5 HX5
    clear x0 x1 x2 x3 x4 x5 x6 x7 x8
    go_wp2_with fail
    refine (isNumber _ _ _ _ HP6.c7 HP6.c8).mono ?_
    rintro e w7 ⟨rfl, rfl⟩
    simp only [Bool.or_true]
    go_wp2_with fail
    refine (isNumber _ _ _ _ HQ6.c7 HQ6.c8).mono ?_
    rintro e w7 ⟨rfl, rfl⟩
    simp only [Bool.or_true]
    have hc_ := HP6
    obtain ⟨p0, p1, p2, p3, p4, p5, p6, p7, p8⟩ := hc_
    have hc_ := HQ6
    obtain ⟨q0, q1, q2, q3, q4, q5, q6, q7, q8⟩ := hc_
    go_wp2_with fail
    refine (code0 _).mono ?_
    rintro e w8 ⟨rfl, hb8⟩
    have HP8 := HP6.kept hb8
    have HQ8 := HQ6.kept hb8
    have B8 := B6.trans (hb8.mono B6.size)
    clear HP6 HQ6 hb8 B6
    clear p0 p1 p2 p3 p4 p5 p6 p7 p8 q0 q1 q2 q3 q4 q5 q6 q7 q8
    go_wp2_with fail
    refine (code12 _).mono ?_
    rintro e w9 ⟨rfl, hb9⟩
    have HP9 := HP8.kept hb9
    have HQ9 := HQ8.kept hb9
    have B9 := B8.trans (hb9.mono B8.size)
    clear HP8 HQ8 hb9 B8
    have hc_ := HP9
    obtain ⟨p0, p1, p2, p3, p4, p5, p6, p7, p8⟩ := hc_
    have hc_ := HQ9
    obtain ⟨q0, q1, q2, q3, q4, q5, q6, q7, q8⟩ := hc_
    go_wp2
    go_ret
    exact ⟨rfl, B9⟩
  · refine (prom _ HX hk hk' true rfl).mono ?_
    rintro e w5 ⟨rfl, hb5⟩
    have HX5 := (HX.kept hb5).on (.cells #[.iface 89 (.pointer (some ⟨0, 27, none⟩)), .int .u64 14, .pointer none, .pointer none, .bool false, .bool false, .bool false, .bool false, .bool true] 49)
    have HY5 := (HY.kept hb5).on (.cells #[.iface 89 (.pointer (some ⟨0, 27, none⟩)), .int .u64 14, .pointer none, .pointer none, .bool false, .bool false, .bool false, .bool false, .bool true] 49)
    have HP5 := Has.fresh w5 27 14 false true
    have B5 := (B4.trans (hb5.mono B4.size)).alloc (B4.trans (hb5.mono B4.size)).size (.cells #[.iface 89 (.pointer (some ⟨0, 27, none⟩)), .int .u64 14, .pointer none, .pointer none, .bool false, .bool false, .bool false, .bool false, .bool true] 49)
    clear hb5 HX HY B4
    have hc_ := HX5
    obtain ⟨x0, x1, x2, x3, x4, x5, x6, x7, x8⟩ := hc_
    go_wp2_with fail
    refine (prom _ HY5 hk' hk true rfl).mono ?_
    rintro e w6 ⟨rfl, hb6⟩
    have HP6 := (HP5.kept hb6).on (.cells #[.iface 89 (.pointer (some ⟨0, 27, none⟩)), .int .u64 14, .pointer none, .pointer none, .bool false, .bool false, .bool false, .bool false, .bool true] 49)
    have HQ6 := Has.fresh w6 27 14 false true
    have B6 := (B5.trans (hb6.mono B5.size)).alloc (B5.trans (hb6.mono B5.size)).size (.cells #[.iface 89 (.pointer (some ⟨0, 27, none⟩)), .int .u64 14, .pointer none, .pointer none, .bool false, .bool false, .bool false, .bool false, .bool true] 49)
    clear hb6 HY5 HP5 B5 HX5
    clear x0 x1 x2 x3 x4 x5 x6 x7 x8
    go_wp2_with fail
    refine (isNumber _ _ _ _ HP6.c7 HP6.c8).mono ?_
    rintro e w7 ⟨rfl, rfl⟩
    simp only [Bool.or_true]
    go_wp2_with fail
    refine (isNumber _ _ _ _ HQ6.c7 HQ6.c8).mono ?_
    rintro e w7 ⟨rfl, rfl⟩
    simp only [Bool.or_true]
    have hc_ := HP6
    obtain ⟨p0, p1, p2, p3, p4, p5, p6, p7, p8⟩ := hc_
    have hc_ := HQ6
    obtain ⟨q0, q1, q2, q3, q4, q5, q6, q7, q8⟩ := hc_
    go_wp2_with fail
    refine (code0 _).mono ?_
    rintro e w8 ⟨rfl, hb8⟩
    have HP8 := HP6.kept hb8
    have HQ8 := HQ6.kept hb8
    have B8 := B6.trans (hb8.mono B6.size)
    clear HP6 HQ6 hb8 B6
    clear p0 p1 p2 p3 p4 p5 p6 p7 p8 q0 q1 q2 q3 q4 q5 q6 q7 q8
    go_wp2_with fail
    refine (code12 _).mono ?_
    rintro e w9 ⟨rfl, hb9⟩
    have HP9 := HP8.kept hb9
    have HQ9 := HQ8.kept hb9
    have B9 := B8.trans (hb9.mono B8.size)
    clear HP8 HQ8 hb9 B8
    have hc_ := HP9
    obtain ⟨p0, p1, p2, p3, p4, p5, p6, p7, p8⟩ := hc_
    have hc_ := HQ9
    obtain ⟨q0, q1, q2, q3, q4, q5, q6, q7, q8⟩ := hc_
    go_wp2
    go_ret
    exact ⟨rfl, B9⟩
  · refine (prom _ HX hk hk' true rfl).mono ?_
    rintro e w5 ⟨rfl, hb5⟩
    have HX5 := (HX.kept hb5).on (.cells #[.iface 89 (.pointer (some ⟨0, 27, none⟩)), .int .u64 14, .pointer none, .pointer none, .bool false, .bool false, .bool false, .bool false, .bool true] 49)
    have HY5 := (HY.kept hb5).on (.cells #[.iface 89 (.pointer (some ⟨0, 27, none⟩)), .int .u64 14, .pointer none, .pointer none, .bool false, .bool false, .bool false, .bool false, .bool true] 49)
    have HP5 := Has.fresh w5 27 14 false true
    have B5 := (B4.trans (hb5.mono B4.size)).alloc (B4.trans (hb5.mono B4.size)).size (.cells #[.iface 89 (.pointer (some ⟨0, 27, none⟩)), .int .u64 14, .pointer none, .pointer none, .bool false, .bool false, .bool false, .bool false, .bool true] 49)
    clear hb5 HX HY B4
    have hc_ := HX5
    obtain ⟨x0, x1, x2, x3, x4, x5, x6, x7, x8⟩ := hc_
    go_wp2_with fail
    refine (prom _ HY5 hk' hk true rfl).mono ?_
    rintro e w6 ⟨rfl, hb6⟩
    have HP6 := (HP5.kept hb6).on (.cells #[.iface 89 (.pointer (some ⟨0, 27, none⟩)), .int .u64 14, .pointer none, .pointer none, .bool false, .bool false, .bool false, .bool false, .bool true] 49)
    have HQ6 := Has.fresh w6 27 14 false true
    have B6 := (B5.trans (hb6.mono B5.size)).alloc (B5.trans (hb6.mono B5.size)).size (.cells #[.iface 89 (.pointer (some ⟨0, 27, none⟩)), .int .u64 14, .pointer none, .pointer none, .bool false, .bool false, .bool false, .bool false, .bool true] 49)
    clear hb6 HY5 HP5 B5 HX5
    clear x0 x1 x2 x3 x4 x5 x6 x7 x8
    go_wp2_with fail
    refine (isNumber _ _ _ _ HP6.c7 HP6.c8).mono ?_
    rintro e w7 ⟨rfl, rfl⟩
    simp only [Bool.or_true]
    go_wp2_with fail
    refine (isNumber _ _ _ _ HQ6.c7 HQ6.c8).mono ?_
    rintro e w7 ⟨rfl, rfl⟩
    simp only [Bool.or_true]
    have hc_ := HP6
    obtain ⟨p0, p1, p2, p3, p4, p5, p6, p7, p8⟩ := hc_
    have hc_ := HQ6
    obtain ⟨q0, q1, q2, q3, q4, q5, q6, q7, q8⟩ := hc_
    go_wp2_with fail
    refine (code0 _).mono ?_
    rintro e w8 ⟨rfl, hb8⟩
    have HP8 := HP6.kept hb8
    have HQ8 := HQ6.kept hb8
    have B8 := B6.trans (hb8.mono B6.size)
    clear HP6 HQ6 hb8 B6
    clear p0 p1 p2 p3 p4 p5 p6 p7 p8 q0 q1 q2 q3 q4 q5 q6 q7 q8
    go_wp2_with fail
    refine (code12 _).mono ?_
    rintro e w9 ⟨rfl, hb9⟩
    have HP9 := HP8.kept hb9
    have HQ9 := HQ8.kept hb9
    have B9 := B8.trans (hb9.mono B8.size)
    clear HP8 HQ8 hb9 B8
    have hc_ := HP9
    obtain ⟨p0, p1, p2, p3, p4, p5, p6, p7, p8⟩ := hc_
    have hc_ := HQ9
    obtain ⟨q0, q1, q2, q3, q4, q5, q6, q7, q8⟩ := hc_
    go_wp2
    go_ret
    exact ⟨rfl, B9⟩
end Go.Proofs.YtikelicjllfgeaaRefl.nat
