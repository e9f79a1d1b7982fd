/-
The law's walk: FnMaybeCompatibleTable returns true at every two bytes and every list of at most 65536 bytes. No condition.
-/
import Derived.Test.YthlmcnlkmgeohaaReflFmtAnyE
import Derived.Deep.OwnRows
namespace Go.Proofs.YthlmcnlkmgeohaaReflFmt.nat
open Go Go.Proofs Go.RowKit
set_option maxRecDepth 100000
set_option maxHeartbeats 4000000
theorem rem17 (a : Int) (h : 0 ≤ a) : ∃ i : Nat, Int.tmod a 17 = i ∧ i < 17 := by
  refine ⟨(a % 17).toNat, ?_, by omega⟩
  rw [Int.tmod_eq_emod_of_nonneg h]
  omega
theorem rem8 (a : Int) (h : 0 ≤ a) : ∃ q : Nat, Int.tmod a 8 = q ∧ q < 8 := by
  refine ⟨(a % 8).toNat, ?_, by omega⟩
  rw [Int.tmod_eq_emod_of_nonneg h]
  omega
theorem Turned.grow {B : Nat} {a w w' : World} (h : Turned B a w) (hB : B ≤ a.heap.size) (k : Below w.heap.size w w') : Turned B a w' :=
  ⟨h.below.trans (k.mono (Nat.le_trans hB h.below.size)), fun b o hb hf => (k.block b (lt_of (h.keep b o hb hf))).trans (h.keep b o hb hf)⟩
theorem CacheAt.alloc {B c : Nat} {w : World} {s : MS} {v : Value} (h : CacheAt B w c s v) (o : Obj) : CacheAt B (w.alloc o) c s v := h.heap fun _ _ hb => h_old _ hb
theorem Turned.size {B : Nat} {a w : World} (h : Turned B a w) : a.heap.size ≤ w.heap.size := h.below.size
theorem Turned.ofBelow {w w' : World} (h : Below w.heap.size w w') : Turned w.heap.size w w' := ⟨h, fun b _ hb _ => (h.block b (lt_of hb)).trans hb⟩
/-- the checks that the bytes stand for -/
def ksOf (ys : List Int) : List Int := ys.map fun y => Int.tmod y 8 + 1
theorem ksOf_in (ys : List Int) (hy : ∀ y ∈ ys, 0 ≤ y ∧ y ≤ 255) : ∀ z ∈ ksOf ys, 1 ≤ z ∧ z ≤ 8 := by
  intro z hz
  obtain ⟨y, hm, rfl⟩ := List.mem_map.1 hz
  obtain ⟨q, hq, h8⟩ := rem8 y (hy y hm).1
  rw [hq]; omega
theorem infoC : (Tryr.prog.info? 38).map (fun i => (i.zero, i.size, i.bytes)) = some (some (.int .i64 0), 1, 8) := by kernel_rfl
theorem bytes8 (a b : Value) (sv : Option Addr) (n cap : Nat) (hn : n ≤ 65536) (w : World) : Calls Tryr.prog 5 #[a, b, .slice sv n cap] w fun e w' => e = .returned (.bool true) ∧ w' = w := by
  go_enter Tryr.func5, Tryr.ntmps5
  go_wp2
  go_ret
  exact ⟨rfl, rfl⟩
theorem law8 (a b : Int) (ha : 0 ≤ a ∧ a ≤ 255) (hb : 0 ≤ b ∧ b ≤ 255) (sv : Option Addr) (b0 off cap : Nat) (ys : List Int) (hsv : ys = [] ∨ sv = some ⟨b0, off, none⟩) (hy : ∀ y ∈ ys, 0 ≤ y ∧ y ≤ 255) (hn : ys.length ≤ 65536) (w : World) (hb0 : ys ≠ [] → b0 < w.heap.size)
    (hc : ∀ j, j < ys.length → w.cell? ⟨b0, off + j, none⟩ = some (.int .u8 (ys.getD j 0))) :
    Calls Tryr.prog 3 #[.int .u8 a, .int .u8 b, .slice sv ys.length cap] w fun e w' => e = .returned (.bool true) ∧ Below w.heap.size w w' := by
  obtain ⟨i, hi, hi17⟩ := rem17 a ha.1
  obtain ⟨j, hj, hj17⟩ := rem17 b hb.1
  have hm := run_make_row' (P := Tryr.prog) 37 38 (.int .i64 0) 8 Tryr.underlying37 infoC rfl .i64 .i64 ys.length (by omega) (by omega)
  go_enter Tryr.func3, Tryr.ntmps3
  go_wp2_with fail
  refine (bytes8 _ _ _ _ _ hn _).mono ?_
  rintro e w0 ⟨rfl, rfl⟩
  go_wp2
  clear hm
  go_loopw [10, 11, 12] (fun va vb vi wr => ∃ (m : Nat) (ra rb : Bool), m ≤ ys.length ∧ va = .bool ra ∧ vb = .bool rb ∧ vi = .int .i64 m ∧ Hid (ra = ((ksOf ys).take m).any (satZ i)) ∧ Hid (rb = ((ksOf ys).take m).any (satZ j)) ∧
      (∃ cs, wr.heap[w0.heap.size]? = some (.cells cs 38 (0, 0)) ∧ cs.size = ys.length ∧ ∀ k, k < m → cs[k]? = some (.int .i64 ((ksOf ys).getD k 0))) ∧ Below w0.heap.size w0 wr)
    (fun _ _ vi _ => ys.length - (intOf vi).toNat)
  case atStart =>
    refine ⟨0, false, false, Nat.zero_le _, rfl, rfl, rfl, Lib.hid (by simp), Lib.hid (by simp), ⟨_, h_new _ _, by simp [madeCells], fun k hk => by omega⟩, (Below.refl _ _).alloc (Nat.le_refl _) _⟩
  case round =>
    obtain ⟨m, ra, rb, hm, rfl, rfl, rfl, HA, HB, ⟨cs, hcs, hsz, hset⟩, hnx⟩ := hrel
    have hkl : (ksOf ys).length = ys.length := by simp [ksOf]
    by_cases hlt : m < ys.length
    · have hne : ys ≠ [] := by intro e; rw [e] at hlt; exact absurd hlt (Nat.not_lt_zero _)
      obtain rfl := hsv.resolve_left hne
      have hb0 := hb0 hne
      have hym : ys.getD m 0 = ys[m] := by simp [List.getD_eq_getElem?_getD, hlt]
      obtain ⟨q, hq, hq8⟩ := rem8 (ys.getD m 0) (by rw [hym]; exact (hy _ (List.getElem_mem hlt)).1)
      have cy := (hnx.cell (by exact hb0)).trans (hc m hlt)
      have hks : (ksOf ys).getD m 0 = (q : Int) + 1 := by
        rw [← hq, hym]; simp [ksOf, List.getD_eq_getElem?_getD, hlt]
      have sA := any_step (ksOf ys) m (satZ i) (by rw [hkl]; exact hlt)
      have sB := any_step (ksOf ys) m (satZ j) (by rw [hkl]; exact hlt)
      rw [hks, ← HA.out] at sA
      rw [hks, ← HB.out] at sB
      have cc : wr.cell? ⟨w0.heap.size, m, none⟩ = some (cs[m]'(by omega)) := cell_of hcs (by simp [hsz, hlt])
      have fc := frozen_of (j := m) hcs
      have hcs' := h_set (j := m) (.int .i64 ((q : Int) + 1)) hcs
      have hset' : ∀ k, k < m + 1 → (cs.setIfInBounds m (.int .i64 ((q : Int) + 1)))[k]? = some (.int .i64 ((ksOf ys).getD k 0)) := by
        intro k hk
        by_cases e : k = m
        · subst e
          rw [hks, Array.getElem?_setIfInBounds_self_of_lt (by omega)]
        · rw [Array.getElem?_setIfInBounds_ne (fun h => e h.symm)]; exact hset k (by omega)
      have hnx' : Below w0.heap.size w0 (wr.setCell ⟨w0.heap.size, m, none⟩ (.int .i64 ((q : Int) + 1))) := hnx.setCell (Nat.le_refl _) _
      have hfin : ∀ ra' rb', ra' = (ra || satZ i ((q : Int) + 1)) → rb' = (rb || satZ j ((q : Int) + 1)) → ∃ (m' : Nat) (ra1 rb1 : Bool), m' ≤ ys.length ∧ Value.bool ra' = .bool ra1 ∧ Value.bool rb' = .bool rb1 ∧ Value.int .i64 ((m : Int) + 1) = .int .i64 m' ∧ Hid (ra1 = ((ksOf ys).take m').any (satZ i)) ∧ Hid (rb1 = ((ksOf ys).take m').any (satZ j)) ∧
          (∃ cs, (wr.setCell ⟨w0.heap.size, m, none⟩ (.int .i64 ((q : Int) + 1))).heap[w0.heap.size]? = some (.cells cs 38 (0, 0)) ∧ cs.size = ys.length ∧ ∀ k, k < m' → cs[k]? = some (.int .i64 ((ksOf ys).getD k 0))) ∧ Below w0.heap.size w0 (wr.setCell ⟨w0.heap.size, m, none⟩ (.int .i64 ((q : Int) + 1))) :=
        fun ra' rb' ea eb => ⟨m + 1, ra', rb', by omega, rfl, rfl, by simp, Lib.hid (by rw [ea, sA]), Lib.hid (by rw [eb, sB]), ⟨_, hcs', by simp [hsz], hset'⟩, hnx'⟩
      have hw1 : IntKind.i64.wrap ((q : Int) + 1) = (q : Int) + 1 := by go_arith
      clear HA HB hcs hset hcs' hset' hnx hnx' hks sA sB hc hy hym
      generalize ys.getD m 0 = y at cy hq
      go_wp2_with fail
      refine (satC i hi17 q hq8 _).mono ?_
      rintro e w1 ⟨rfl, rfl⟩
      cases hsa : satZ i ((q : Int) + 1)
      · go_wp2_with fail
        refine (satC j hj17 q hq8 _).mono ?_
        rintro e w1 ⟨rfl, rfl⟩
        cases hsb : satZ j ((q : Int) + 1)
        · skip
          go_wp2
          go_roundw
          case rel => exact hfin ra rb (by simp [hsa]) (by simp [hsb])
          case measure => simp [intOf]; omega
        · skip
          go_wp2
          go_roundw
          case rel => exact hfin ra true (by simp [hsa]) (by simp [hsb])
          case measure => simp [intOf]; omega
      · go_wp2_with fail
        refine (satC j hj17 q hq8 _).mono ?_
        rintro e w1 ⟨rfl, rfl⟩
        cases hsb : satZ j ((q : Int) + 1)
        · skip
          go_wp2
          go_roundw
          case rel => exact hfin true rb (by simp [hsa]) (by simp [hsb])
          case measure => simp [intOf]; omega
        · skip
          go_wp2
          go_roundw
          case rel => exact hfin true true (by simp [hsa]) (by simp [hsb])
          case measure => simp [intOf]; omega
    · have hml : m = ys.length := by omega
      subst hml
      have ta : ra = (ksOf ys).any (satZ i) := by have := HA.out; rwa [← hkl, List.take_length] at this
      have tb : rb = (ksOf ys).any (satZ j) := by have := HB.out; rwa [← hkl, List.take_length] at this
      have hin := ksOf_in ys hy
      clear HA HB hc hsz
      have sT := storeT
      have hc0 : CacheAt w0.heap.size (wr.alloc (.cells #[.map none, .map none] 44)) wr.heap.size .no (.pointer none) := ⟨hnx.size, .inl ⟨rfl, h_new _ _⟩, fun h => by cases h⟩
      have T0 := (Turned.ofBelow hnx).alloc hnx.size (.cells #[.map none, .map none] 44)
      have G0 := h_old (.cells #[.map none, .map none] 44) hcs
      clear hnx hcs
      go_wp2_with fail
      refine (codeN i hi17 _).mono ?_
      rintro e w1 ⟨px, gx, rfl, hb1⟩
      have hc1 := (hc0.grow hb1).alloc (.cells #[tyV (nt i).ty, .int .u64 (nt i).k, (.pointer px), .pointer none, .bool (nt i).nl, .bool false, .bool false, .bool (nt i).i, .bool (nt i).f] 51)
      have T1 := (T0.grow (Nat.le_refl _) hb1).alloc (T0.grow (Nat.le_refl _) hb1).size (.cells #[tyV (nt i).ty, .int .u64 (nt i).k, (.pointer px), .pointer none, .bool (nt i).nl, .bool false, .bool false, .bool (nt i).i, .bool (nt i).f] 51)
      have Hx1 : Has (w1.alloc (.cells #[tyV (nt i).ty, .int .u64 (nt i).k, (.pointer px), .pointer none, .bool (nt i).nl, .bool false, .bool false, .bool (nt i).i, .bool (nt i).f] 51)) w1.heap.size (nt i) (.pointer px) := h_new _ _
      have G1 := h_old (.cells #[tyV (nt i).ty, .int .u64 (nt i).k, (.pointer px), .pointer none, .bool (nt i).nl, .bool false, .bool false, .bool (nt i).i, .bool (nt i).f] 51) ((hb1.block _ (lt_of G0)).trans G0)
      clear G0 hb1 hc0 T0 
      go_wp2_with fail
      refine (codeN j hj17 _).mono ?_
      rintro e w2 ⟨py, gy, rfl, hb2⟩
      have hc2 := (hc1.grow hb2).alloc (.cells #[tyV (nt j).ty, .int .u64 (nt j).k, (.pointer py), .pointer none, .bool (nt j).nl, .bool false, .bool false, .bool (nt j).i, .bool (nt j).f] 51)
      have T2 := (T1.grow (Nat.le_refl _) hb2).alloc (T1.grow (Nat.le_refl _) hb2).size (.cells #[tyV (nt j).ty, .int .u64 (nt j).k, (.pointer py), .pointer none, .bool (nt j).nl, .bool false, .bool false, .bool (nt j).i, .bool (nt j).f] 51)
      have Hx2 := (Hx1.grow hb2).alloc (.cells #[tyV (nt j).ty, .int .u64 (nt j).k, (.pointer py), .pointer none, .bool (nt j).nl, .bool false, .bool false, .bool (nt j).i, .bool (nt j).f] 51)
      have Hy2 : Has (w2.alloc (.cells #[tyV (nt j).ty, .int .u64 (nt j).k, (.pointer py), .pointer none, .bool (nt j).nl, .bool false, .bool false, .bool (nt j).i, .bool (nt j).f] 51)) w2.heap.size (nt j) (.pointer py) := h_new _ _
      have G2 := h_old (.cells #[tyV (nt j).ty, .int .u64 (nt j).k, (.pointer py), .pointer none, .bool (nt j).nl, .bool false, .bool false, .bool (nt j).i, .bool (nt j).f] 51) ((hb2.block _ (lt_of G1)).trans G1)
      clear G1 hb2 hc1 T1 Hx1
      go_wp2_with fail
      have key := mayN i j hi17 hj17 hc2 Hx2 gx gy T2.size w0.heap.size ys.length (ksOf ys) hin (by rw [hkl]; omega) _ ⟨cs, G2, by decide, fun k hk => hset k (by rw [hkl] at hk; exact hk)⟩
      rw [hkl] at key
      clear hset hin
      refine key.mono ?_
      rintro e w3 ⟨rfl, _, t3⟩
      have T3 := T2.trans t3
      unfold mayZ
      rw [← ta, ← tb]
      clear key hc2 Hx2 Hy2 t3 T2 sT G2 ta tb
      go_wp2_with fail
      refine (unkC i hi17 _).mono ?_
      rintro e w4 ⟨rfl, rfl⟩
      go_wp2_with fail
      refine (unkC j hj17 _).mono ?_
      rintro e w5 ⟨rfl, rfl⟩
      cases unkZ i <;> cases unkZ j <;> cases ra <;> cases rb
      all_goals
        go_wp2
        go_ret
        exact ⟨rfl, T3.below⟩
theorem bytes8_big (a b : Value) (sv : Option Addr) (n cap : Nat) (w : World) : Calls Tryr.prog 5 #[a, b, .slice sv n cap] w fun e w' => e = .returned (.bool (!decide ((1048576 : Int) < n))) ∧ w' = w := by
  by_cases h : (1048576 : Int) < n
  · go_enter Tryr.func5, Tryr.ntmps5
    go_wp2
    go_ret
    exact ⟨by simp [h], rfl⟩
  · go_enter Tryr.func5, Tryr.ntmps5
    go_wp2
    go_ret
    exact ⟨by simp [h], rfl⟩
theorem law8_big (a b : Int) (sv : Option Addr) (n cap : Nat) (hn : 65536 < n) (w : World) : Calls Tryr.prog 3 #[.int .u8 a, .int .u8 b, .slice sv n cap] w fun e w' => e = .returned (.bool true) ∧ Below w.heap.size w w' := by
  have hn' : (65536 : Int) < n := by omega
  go_enter Tryr.func3, Tryr.ntmps3
  go_wp2_with fail
  refine (bytes8_big _ _ _ _ _ _).mono ?_
  rintro e w0 ⟨rfl, rfl⟩
  generalize (!decide ((1048576 : Int) < n)) = r
  cases r
  all_goals
    go_wp2
    go_ret
    exact ⟨rfl, Below.refl _ _⟩
end Go.Proofs.YthlmcnlkmgeohaaReflFmt.nat
