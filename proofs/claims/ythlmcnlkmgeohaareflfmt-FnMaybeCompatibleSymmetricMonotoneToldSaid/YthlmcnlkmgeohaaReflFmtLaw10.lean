/-
The law's walk: FnMaybeCompatibleSymmetricMonotone returns true at every two bytes and every two lists of at most 65536 bytes. No condition.
-/
import Derived.Test.YthlmcnlkmgeohaaReflFmtLaw8
import Derived.Laws.AppendOwn
import Derived.Laws.MakeOwn
namespace Go.Proofs.YthlmcnlkmgeohaaReflFmt.nat
open Go Go.Proofs Go.RowKit
set_option maxRecDepth 100000
set_option maxHeartbeats 4000000
/-- append of one check onto a row of the call's own -/
theorem appI {ops : Array Oper} {rest : List Oper} {o : Oper} {a : Act} {Q : Exit → Act → World → Prop} (hgd : o.guard = none) (s x : Operand)
    (ho : o.op = .call { callee := .builtin .append, args := #[s, x], argTypes := #[37, 37] })
    (B : Nat) (w0 w : World) (v : Value) (l : List Value) (z : Int) (hs : a.eval s = v) (g : Nat) (hg0 : g = w.heap.size) (hx : a.eval x = .slice (some ⟨g, 0, none⟩) 1 1)
    (hown : w.ownsRow B 38 1 v l.length l) (hv : v ≠ .slice none 0 0) (hb : Below B w0 w) (hB : B ≤ w.heap.size) (hl : l.length + 1 ≤ 1048576)
    (h : ∀ v' w', w'.ownsRow B 38 1 v' (l ++ [Value.int .i64 z]).length (l ++ [Value.int .i64 z]) → v' ≠ .slice none 0 0 → Below B w0 w' → wpList Tryr.prog ops Q rest (a.put o.dst v') w') :
    wpList Tryr.prog ops Q (o :: rest) a (w.alloc (.cells #[Value.int .i64 z] 38)) := by
  subst hg0
  obtain ⟨i0, hi, hz0, hz1, hz2⟩ := info_parts infoC
  refine wpList_append_own _ hgd s x 37 ho B 38 i0 (.int .i64 0) 1 8 Tryr.underlying37 hi hz0 hz1 hz2 rfl (by decide) v l.length l hs (hown.alloc _) ⟨w.heap.size, 0, none⟩ 1 1 [.int .i64 z] hx rfl ?_ ?_ ?_ ?_ ?_ ?_
  · intro j u hj
    match j, hj with
    | 0, hj => simp at hj; subst hj; simp [Addr.add]
  · intro u hu; simp at hu; subst hu; rfl
  · unfold maxLen; omega
  · omega
  · simp; omega
  · intro v' w' hown' hg hiff
    refine h v' w' (by simpa using hown') (fun e => hv (hiff.1 e).1) ?_
    exact (hb.alloc hB _).grown hg (by simp; omega) (fun k hk => (hown.lt k hk).1)
theorem mayZ_symm (i j : Nat) (zs : List Int) : mayZ j i zs = mayZ i j zs := by
  unfold mayZ
  cases unkZ i <;> cases unkZ j <;> simp
theorem mayZ_rev (i j : Nat) (zs : List Int) : mayZ i j zs.reverse = mayZ i j zs := by
  unfold mayZ
  rw [List.any_reverse, List.any_reverse]
theorem mayZ_more (i j : Nat) (zs es : List Int) (h : mayZ i j zs = true) : mayZ i j (zs ++ es) = true := by
  unfold mayZ at h ⊢
  rw [List.any_append, List.any_append]
  revert h
  cases unkZ i <;> cases unkZ j <;> cases zs.any (satZ i) <;> cases zs.any (satZ j) <;> simp
/-- an owned row's cells, as the contracts read them -/
theorem own_cells {w : World} {B : Nat} {v : Value} {zs : List Int} (h : w.ownsRow B 38 1 v zs.length (zs.map (Value.int .i64))) (hv : v ≠ .slice none 0 0) :
    ∃ g cap cs, v = .slice (some ⟨g, 0, none⟩) zs.length cap ∧ w.heap[g]? = some (.cells cs 38 (0, 0)) ∧ ∀ k, k < zs.length → cs[k]? = some (.int .i64 (zs.getD k 0)) := by
  rcases h.2 with ⟨rfl, h0⟩ | ⟨g, cap, cur, rfl, hg, hh, hn, hcap, hcur, htake⟩
  · exact absurd rfl hv
  · refine ⟨g, cap, cur, rfl, hh, fun k hk => ?_⟩
    have ht : (zs.map (Value.int .i64))[k]? = some (.int .i64 (zs.getD k 0)) := by simp [List.getD_eq_getElem?_getD, hk]
    rw [← htake] at ht
    simpa [List.getElem?_take, hk] using ht
theorem bytes10 (a b : Value) (s1 s2 : Option Addr) (n1 c1 n2 c2 : Nat) (h1 : n1 ≤ 65536) (h2 : n2 ≤ 65536) (w : World) : Calls Tryr.prog 10 #[a, b, .slice s1 n1 c1, .slice s2 n2 c2] w fun e w' => e = .returned (.bool true) ∧ w' = w := by
  go_enter Tryr.func10, Tryr.ntmps10
  go_wp2
  go_ret
  exact ⟨rfl, rfl⟩
theorem law10 (a b : Int) (ha : 0 ≤ a ∧ a ≤ 255) (hb : 0 ≤ b ∧ b ≤ 255) (s1 s2 : Option Addr) (b1 o1 c1 b2 o2 c2 : Nat) (ys es : List Int) (hs1 : ys = [] ∨ s1 = some ⟨b1, o1, none⟩) (hs2 : es = [] ∨ s2 = some ⟨b2, o2, none⟩)
    (hy : ∀ y ∈ ys, 0 ≤ y ∧ y ≤ 255) (he : ∀ y ∈ es, 0 ≤ y ∧ y ≤ 255) (hn1 : ys.length ≤ 65536) (hn2 : es.length ≤ 65536) (w : World) (hb1 : ys ≠ [] → b1 < w.heap.size) (hb2 : es ≠ [] → b2 < w.heap.size)
    (hc1 : ∀ j, j < ys.length → w.cell? ⟨b1, o1 + j, none⟩ = some (.int .u8 (ys.getD j 0))) (hc2 : ∀ j, j < es.length → w.cell? ⟨b2, o2 + j, none⟩ = some (.int .u8 (es.getD j 0))) :
    Calls Tryr.prog 4 #[.int .u8 a, .int .u8 b, .slice s1 ys.length c1, .slice s2 es.length c2] w fun e w' => e = .returned (.bool true) ∧ Below w.heap.size w w' := by
  obtain ⟨i, hi, hi17⟩ := rem17 a ha.1
  obtain ⟨j, hj, hj17⟩ := rem17 b hb.1
  have hm := run_make_row' (P := Tryr.prog) 37 38 (.int .i64 0) 8 Tryr.underlying37 infoC rfl .i64 .i64 ys.length (by omega) (by omega)
  go_enter Tryr.func4, Tryr.ntmps4
  go_wp2_with fail
  refine (bytes10 _ _ _ _ _ _ _ _ hn1 hn2 _).mono ?_
  rintro e w0 ⟨rfl, rfl⟩
  go_wp2
  clear hm
  go_loopw [14] (fun vi wr => ∃ (m : Nat), m ≤ ys.length ∧ vi = .int .i64 m ∧
      (∃ cs rs, wr.heap[w0.heap.size]? = some (.cells cs 38 (0, 0)) ∧ cs.size = ys.length ∧ (∀ k, k < m → cs[k]? = some (.int .i64 ((ksOf ys).getD k 0))) ∧
        wr.heap[w0.heap.size + 1]? = some (.cells rs 38 (0, 0)) ∧ rs.size = ys.length ∧ (∀ k, k < m → rs[ys.length - 1 - k]? = some (.int .i64 ((ksOf ys).getD k 0)))) ∧ Below w0.heap.size w0 wr)
    (fun vi _ => ys.length - (intOf vi).toNat)
  case atStart =>
    refine ⟨0, Nat.zero_le _, rfl, ⟨_, _, h_old _ (h_new _ _), by simp [madeCells], fun k hk => by omega, by have := h_new (w0.alloc (.cells (madeCells #[.int .i64 0] ys.length) 38)) (.cells (madeCells #[.int .i64 0] ys.length) 38); rwa [World.size_alloc] at this, by simp [madeCells], fun k hk => by omega⟩, ((Below.refl _ _).alloc (Nat.le_refl _) _).alloc (by simp) _⟩
  case round =>
    obtain ⟨m, hm, rfl, ⟨cs, rs, hcs, hsz, hset, hrs, hrz, hrev⟩, hnx⟩ := hrel
    have hkl : (ksOf ys).length = ys.length := by simp [ksOf]
    by_cases hlt : m < ys.length
    · have hne : ys ≠ [] := by intro e; rw [e] at hlt; exact absurd hlt (Nat.not_lt_zero _)
      obtain rfl := hs1.resolve_left hne
      have hb1 := hb1 hne
      have hym : ys.getD m 0 = ys[m] := by simp [List.getD_eq_getElem?_getD, hlt]
      obtain ⟨q, hq, hq8⟩ := rem8 (ys.getD m 0) (by rw [hym]; exact (hy _ (List.getElem_mem hlt)).1)
      have cy := (hnx.cell (by exact hb1)).trans (hc1 m hlt)
      have hks : (ksOf ys).getD m 0 = (q : Int) + 1 := by
        rw [← hq, hym]; simp [ksOf, List.getD_eq_getElem?_getD, hlt]
      have cc : wr.cell? ⟨w0.heap.size, m, none⟩ = some (cs[m]'(by omega)) := cell_of hcs (by simp [hsz, hlt])
      have fc := frozen_of (j := m) hcs
      have hcs' := h_set (j := m) (.int .i64 ((q : Int) + 1)) hcs
      have hrs1 := (h_set_ne (a := ⟨w0.heap.size, m, none⟩) (.int .i64 ((q : Int) + 1)) (b := w0.heap.size + 1) (by simp)).trans hrs
      have cr := cell_of (j := ys.length - 1 - m) (v := rs[ys.length - 1 - m]'(by omega)) hrs1 (Array.getElem?_eq_getElem _)
      have fr := frozen_of (j := ys.length - 1 - m) hrs1
      clear hc1 hc2 hs2 hb2 hy he
      generalize ys.getD m 0 = y at cy hq
      have hcs2 := (h_set_ne (a := ⟨w0.heap.size + 1, ys.length - 1 - m, none⟩) (.int .i64 ((q : Int) + 1)) (b := w0.heap.size) (by simp)).trans hcs'
      have hrs2 := h_set (j := ys.length - 1 - m) (.int .i64 ((q : Int) + 1)) hrs1
      have hnx2 : Below w0.heap.size w0 ((wr.setCell ⟨w0.heap.size, m, none⟩ (.int .i64 ((q : Int) + 1))).setCell ⟨w0.heap.size + 1, ys.length - 1 - m, none⟩ (.int .i64 ((q : Int) + 1))) := (hnx.setCell (Nat.le_refl _) _).setCell (by simp) _
      have hset2 : ∀ k, k < m + 1 → (cs.setIfInBounds m (.int .i64 ((q : Int) + 1)))[k]? = some (.int .i64 ((ksOf ys).getD k 0)) := by
        intro k hk
        by_cases e : k = m
        · subst e
          rw [hks, Array.getElem?_setIfInBounds_self_of_lt (by omega)]
        · rw [Array.getElem?_setIfInBounds_ne (fun h => e h.symm)]; exact hset k (by omega)
      have hrev2 : ∀ k, k < m + 1 → (rs.setIfInBounds (ys.length - 1 - m) (.int .i64 ((q : Int) + 1)))[ys.length - 1 - k]? = some (.int .i64 ((ksOf ys).getD k 0)) := by
        intro k hk
        by_cases e : k = m
        · subst e
          rw [hks, Array.getElem?_setIfInBounds_self_of_lt (by omega)]
        · rw [Array.getElem?_setIfInBounds_ne (by omega)]; exact hrev k (by omega)
      clear hcs hrs hrs1 hcs' hset hrev hnx hks
      go_wp2
      refine ⟨⟨m + 1, by omega, by simp, ⟨_, _, hcs2, by simp [hsz], hset2, hrs2, by simp [hrz], hrev2⟩, hnx2⟩, by simp [intOf]; omega⟩
    · have hml : m = ys.length := by omega
      subst hml
      obtain ⟨wA, hwA⟩ : ∃ wA, wA = wr := ⟨_, rfl⟩
      subst hwA
      obtain ⟨i0, hi0, hz0, hz1, hz2⟩ := info_parts infoC
      have hbase : w0.heap.size + 2 ≤ wA.heap.size := by have := lt_of hrs; omega
      obtain ⟨wm, hmk, hown, hgr⟩ := run_make_own (P := Tryr.prog) wA (w0.heap.size + 2) 37 38 i0 (.int .i64 0) 1 Tryr.underlying37 hi0 hz0 hz1 .i64 .i64 (ys.length + es.length) (by rw [hz2]; omega) (by unfold maxLen; omega) hbase
      rw [Int.natCast_add] at hmk
      have hbm : Below (w0.heap.size + 2) wA wm := (Below.refl _ wA).grown hgr hbase (fun k hk => by cases hk)
      clear hgr
      go_wp2
      clear hmk
      go_loopw [16, 17] (fun vs vi w2 => ∃ (m : Nat) (v : Value), m ≤ ys.length ∧ vs = v ∧ vi = .int .i64 m ∧ v ≠ .slice none 0 0 ∧ w2.ownsRow (w0.heap.size + 2) 38 1 v (((ksOf ys).take m).map (Value.int .i64)).length (((ksOf ys).take m).map (Value.int .i64)) ∧ Below (w0.heap.size + 2) wA w2)
        (fun _ vi _ => ys.length - (intOf vi).toNat)
      case atStart => exact ⟨0, _, Nat.zero_le _, rfl, rfl, by simp, by simpa using hown, hbm⟩
      case round =>
        obtain ⟨m, v, hm2, rfl, rfl, hv, hown2, hnx2⟩ := hrel
        have hsz2 := hnx2.size
        by_cases hlt2 : m < ys.length
        · have cm := (hnx2.cell (show w0.heap.size < w0.heap.size + 2 by omega)).trans (cell_of (j := m) hcs (hset m hlt2))
          have htk : (ksOf ys).take (m + 1) = (ksOf ys).take m ++ [(ksOf ys).getD m 0] := by
            rw [List.take_succ_eq_append_getElem (by omega)]
            simp [List.getD_eq_getElem?_getD, hkl, hlt2]
          generalize (ksOf ys).getD m 0 = z at cm htk
          have hlen2 : (((ksOf ys).take m).map (Value.int .i64)).length = m := by simp; omega
          go_wp2_with (first | (at_builtin; refine appI rfl (.tmp 85) (.tmp 90) rfl (w0.heap.size + 2) wA _ _ _ z rfl _ rfl rfl hown2 hv hnx2 (by omega) (by omega) ?_))
          intro v2 w3 hown3 hv3 hb3
          clear cm hown2 hnx2
          go_wp2
          go_roundw
          case rel => exact ⟨m + 1, v2, by omega, rfl, by go_num, hv3, by rw [htk]; simpa [hkl, Nat.min_eq_left (Nat.le_of_lt hlt2)] using hown3, hb3⟩
          case measure => simp [intOf]; omega
        · have hml2 : m = ys.length := by omega
          subst hml2
          have htn : (ksOf ys).take ys.length = ksOf ys := by rw [← hkl, List.take_length]
          rw [htn] at hown2
          have hkl2 : (ksOf es).length = es.length := by simp [ksOf]
          obtain ⟨wB, hwB⟩ : ∃ wB, wB = wr := ⟨_, rfl⟩
          subst hwB
          go_wp2
          go_loopw [16, 18] (fun vs vi w2 => ∃ (m : Nat) (v : Value), m ≤ es.length ∧ vs = v ∧ vi = .int .i64 m ∧ v ≠ .slice none 0 0 ∧ w2.ownsRow (w0.heap.size + 2) 38 1 v ((ksOf ys ++ (ksOf es).take m).map (Value.int .i64)).length ((ksOf ys ++ (ksOf es).take m).map (Value.int .i64)) ∧ Below (w0.heap.size + 2) wA w2)
            (fun _ vi _ => es.length - (intOf vi).toNat)
          case atStart => exact ⟨0, _, Nat.zero_le _, rfl, rfl, hv, by simpa using hown2, hnx2⟩
          case round =>
            clear hown2 hnx2 hv
            obtain ⟨m, v, hm3, rfl, rfl, hv, hown2, hnx2⟩ := hrel
            have hsz3 := hnx2.size
            by_cases hlt2 : m < es.length
            · have hne : es ≠ [] := by intro e; rw [e] at hlt2; exact absurd hlt2 (Nat.not_lt_zero _)
              obtain rfl := hs2.resolve_left hne
              have hb2' := hb2 hne
              have hym : es.getD m 0 = es[m] := by simp [List.getD_eq_getElem?_getD, hlt2]
              obtain ⟨q, hq, hq8⟩ := rem8 (es.getD m 0) (by rw [hym]; exact (he _ (List.getElem_mem hlt2)).1)
              have cy := (hnx2.cell (show b2 < w0.heap.size + 2 by omega)).trans ((hnx.cell (by exact hb2')).trans (hc2 m hlt2))
              have hks : (ksOf es).getD m 0 = (q : Int) + 1 := by
                rw [← hq, hym]; simp [ksOf, List.getD_eq_getElem?_getD, hlt2]
              have htk : ksOf ys ++ (ksOf es).take (m + 1) = (ksOf ys ++ (ksOf es).take m) ++ [(q : Int) + 1] := by
                rw [List.take_succ_eq_append_getElem (by omega), ← List.append_assoc, ← hks]
                simp [List.getD_eq_getElem?_getD, hkl2, hlt2]
              generalize es.getD m 0 = y at cy hq
              have hlen2 : ((ksOf ys ++ (ksOf es).take m).map (Value.int .i64)).length ≤ 131072 := by simp; omega
              go_wp2_with (first | (at_builtin; refine appI rfl (.tmp 98) (.tmp 106) rfl (w0.heap.size + 2) wA _ _ _ ((q : Int) + 1) rfl _ rfl rfl hown2 hv hnx2 (by omega) (by omega) ?_))
              intro v2 w3 hown3 hv3 hb3
              clear cy hown2 hnx2
              go_wp2
              go_roundw
              case rel => exact ⟨m + 1, v2, by omega, rfl, by go_num, hv3, by rw [htk]; simpa [hkl, hkl2, Nat.min_eq_left (Nat.le_of_lt hlt2), Nat.add_assoc] using hown3, hb3⟩
              case measure => simp [intOf]; omega
            · have hml3 : m = es.length := by omega
              subst hml3
              have htn2 : (ksOf es).take es.length = ksOf es := by rw [← hkl2, List.take_length]
              rw [htn2] at hown2
              have hlm : ((ksOf ys ++ ksOf es).map (Value.int .i64)).length = (ksOf ys ++ ksOf es).length := by simp
              rw [hlm] at hown2
              obtain ⟨g, cap3, ms, rfl, hgm, hms⟩ := own_cells hown2 hv
              have hBw : Below w0.heap.size w0 wr := hnx.trans (hnx2.mono (by omega))
              have A00 := (hnx2.block w0.heap.size (by omega)).trans hcs
              have R00 := (hnx2.block (w0.heap.size + 1) (by omega)).trans hrs
              have hrv : ∀ k, k < (ksOf ys).reverse.length → rs[k]? = some (.int .i64 ((ksOf ys).reverse.getD k 0)) := by
                intro k hk
                rw [List.length_reverse, hkl] at hk
                have h1 := hrev (ys.length - 1 - k) (by omega)
                rw [show ys.length - 1 - (ys.length - 1 - k) = k by omega] at h1
                rw [h1]
                congr 2
                have hx : ys.length - 1 - k < (ksOf ys).length := by omega
                simp [List.getD_eq_getElem?_getD, hkl, hk, List.getElem?_eq_getElem hx]
              have in1 := ksOf_in ys hy
              have in2 : ∀ z ∈ (ksOf ys).reverse, 1 ≤ z ∧ z ≤ 8 := fun z hz => in1 z (List.mem_reverse.1 hz)
              have in3 : ∀ z ∈ ksOf ys ++ ksOf es, 1 ≤ z ∧ z ≤ 8 := fun z hz => (List.mem_append.1 hz).elim (in1 z) (ksOf_in es he z)
              have hlR : (ksOf ys).reverse.length = ys.length := by simp [hkl]
              have hlM : ((ksOf ys ++ ksOf es).length : Int) ≤ 9223372036854775807 := by rw [List.length_append, hkl, hkl2]; omega
              clear hc1 hc2 hb1 hb2 hs1 hs2 hrev hy he hown2 hv hm2 hm3 hsz2 hsz3 hsz hrz hbm hown hm
              have sT := storeT
              have hc0 : CacheAt w0.heap.size (wr.alloc (.cells #[.map none, .map none] 44)) wr.heap.size .no (.pointer none) := ⟨hBw.size, .inl ⟨rfl, h_new _ _⟩, fun h => by cases h⟩
              have T0 := (Turned.ofBelow hBw).alloc hBw.size (.cells #[.map none, .map none] 44)
              have A0 := h_old (.cells #[.map none, .map none] 44) A00
              have R0 := h_old (.cells #[.map none, .map none] 44) R00
              have M0 := h_old (.cells #[.map none, .map none] 44) hgm
              clear hBw A00 R00 hgm hnx hnx2 hcs hrs
              go_wp2_with fail
              refine (codeN i hi17 _).mono ?_
              rintro e w1 ⟨px, gx, rfl, hb1⟩
              have hc1 := (hc0.grow hb1).alloc (.cells #[tyV (nt i).ty, .int .u64 (nt i).k, (.pointer px), .pointer none, .bool (nt i).nl, .bool false, .bool false, .bool (nt i).i, .bool (nt i).f] 51)
              have T1 := (T0.grow (Nat.le_refl _) hb1).alloc (T0.grow (Nat.le_refl _) hb1).size (.cells #[tyV (nt i).ty, .int .u64 (nt i).k, (.pointer px), .pointer none, .bool (nt i).nl, .bool false, .bool false, .bool (nt i).i, .bool (nt i).f] 51)
              have Hx1 : Has (w1.alloc (.cells #[tyV (nt i).ty, .int .u64 (nt i).k, (.pointer px), .pointer none, .bool (nt i).nl, .bool false, .bool false, .bool (nt i).i, .bool (nt i).f] 51)) w1.heap.size (nt i) (.pointer px) := h_new _ _
              have A1 := h_old (.cells #[tyV (nt i).ty, .int .u64 (nt i).k, (.pointer px), .pointer none, .bool (nt i).nl, .bool false, .bool false, .bool (nt i).i, .bool (nt i).f] 51) ((hb1.block _ (lt_of A0)).trans A0)
              have R1 := h_old (.cells #[tyV (nt i).ty, .int .u64 (nt i).k, (.pointer px), .pointer none, .bool (nt i).nl, .bool false, .bool false, .bool (nt i).i, .bool (nt i).f] 51) ((hb1.block _ (lt_of R0)).trans R0)
              have M1 := h_old (.cells #[tyV (nt i).ty, .int .u64 (nt i).k, (.pointer px), .pointer none, .bool (nt i).nl, .bool false, .bool false, .bool (nt i).i, .bool (nt i).f] 51) ((hb1.block _ (lt_of M0)).trans M0)
              clear A0 R0 M0
              clear hb1 hc0 T0 
              go_wp2_with fail
              refine (codeN j hj17 _).mono ?_
              rintro e w2 ⟨py, gy, rfl, hb2⟩
              have hc2 := (hc1.grow hb2).alloc (.cells #[tyV (nt j).ty, .int .u64 (nt j).k, (.pointer py), .pointer none, .bool (nt j).nl, .bool false, .bool false, .bool (nt j).i, .bool (nt j).f] 51)
              have T2 := (T1.grow (Nat.le_refl _) hb2).alloc (T1.grow (Nat.le_refl _) hb2).size (.cells #[tyV (nt j).ty, .int .u64 (nt j).k, (.pointer py), .pointer none, .bool (nt j).nl, .bool false, .bool false, .bool (nt j).i, .bool (nt j).f] 51)
              have Hx2 := (Hx1.grow hb2).alloc (.cells #[tyV (nt j).ty, .int .u64 (nt j).k, (.pointer py), .pointer none, .bool (nt j).nl, .bool false, .bool false, .bool (nt j).i, .bool (nt j).f] 51)
              have Hy2 : Has (w2.alloc (.cells #[tyV (nt j).ty, .int .u64 (nt j).k, (.pointer py), .pointer none, .bool (nt j).nl, .bool false, .bool false, .bool (nt j).i, .bool (nt j).f] 51)) w2.heap.size (nt j) (.pointer py) := h_new _ _
              have A2 := h_old (.cells #[tyV (nt j).ty, .int .u64 (nt j).k, (.pointer py), .pointer none, .bool (nt j).nl, .bool false, .bool false, .bool (nt j).i, .bool (nt j).f] 51) ((hb2.block _ (lt_of A1)).trans A1)
              have R2 := h_old (.cells #[tyV (nt j).ty, .int .u64 (nt j).k, (.pointer py), .pointer none, .bool (nt j).nl, .bool false, .bool false, .bool (nt j).i, .bool (nt j).f] 51) ((hb2.block _ (lt_of R1)).trans R1)
              have M2 := h_old (.cells #[tyV (nt j).ty, .int .u64 (nt j).k, (.pointer py), .pointer none, .bool (nt j).nl, .bool false, .bool false, .bool (nt j).i, .bool (nt j).f] 51) ((hb2.block _ (lt_of M1)).trans M1)
              clear A1 R1 M1
              clear hb2 hc1 T1 Hx1
              have c0 := cell_of (j := 0) Hy2 rfl
              have c1 := cell_of (j := 1) Hy2 rfl
              have c2 := cell_of (j := 2) Hy2 rfl
              have c3 := cell_of (j := 3) Hy2 rfl
              have c4 := cell_of (j := 4) Hy2 rfl
              have c5 := cell_of (j := 5) Hy2 rfl
              have c6 := cell_of (j := 6) Hy2 rfl
              have c7 := cell_of (j := 7) Hy2 rfl
              have c8 := cell_of (j := 8) Hy2 rfl
              have key := mayN i j hi17 hj17 hc2 Hx2 gx gy T2.size w0.heap.size ys.length (ksOf ys) in1 (by rw [hkl]; omega) _ ⟨_, A2, by decide, fun k hk => hset k (by rw [hkl] at hk; exact hk)⟩
              rw [hkl] at key
              go_wp2_with fail
              refine key.mono ?_
              rintro e w3 ⟨rfl, ⟨s3, v3, hc3⟩, t3⟩
              have T3 := T2.trans t3
              have Hx3 := Hx2.kept t3
              have Hy3 := Hy2.kept t3
              have A3 := t3.keep _ _ A2 (by simp [Fixed])
              have R3 := t3.keep _ _ R2 (by simp [Fixed])
              have M3 := t3.keep _ _ M2 (by simp [Fixed])
              clear c0 c1 c2 c3 c4 c5 c6 c7 c8
              clear key hc2 T2 t3 Hx2 Hy2 A2 R2 M2
              clear sT
              have c0 := cell_of (j := 0) Hx3 rfl
              have c1 := cell_of (j := 1) Hx3 rfl
              have c2 := cell_of (j := 2) Hx3 rfl
              have c3 := cell_of (j := 3) Hx3 rfl
              have c4 := cell_of (j := 4) Hx3 rfl
              have c5 := cell_of (j := 5) Hx3 rfl
              have c6 := cell_of (j := 6) Hx3 rfl
              have c7 := cell_of (j := 7) Hx3 rfl
              have c8 := cell_of (j := 8) Hx3 rfl
              have key := mayN j i hj17 hi17 hc3 Hy3 gy gx T3.size w0.heap.size ys.length (ksOf ys) in1 (by rw [hkl]; omega) _ ⟨_, A3, by decide, fun k hk => hset k (by rw [hkl] at hk; exact hk)⟩
              rw [hkl, mayZ_symm] at key
              go_wp2_with fail
              refine key.mono ?_
              rintro e w4 ⟨rfl, ⟨s4, v4, hc4⟩, t4⟩
              have T4 := T3.trans t4
              have Hx4 := Hx3.kept t4
              have Hy4 := Hy3.kept t4
              have A4 := t4.keep _ _ A3 (by simp [Fixed])
              have R4 := t4.keep _ _ R3 (by simp [Fixed])
              have M4 := t4.keep _ _ M3 (by simp [Fixed])
              clear c0 c1 c2 c3 c4 c5 c6 c7 c8
              clear key hc3 T3 t4 Hx3 Hy3 A3 R3 M3
              have c0 := cell_of (j := 0) Hy4 rfl
              have c1 := cell_of (j := 1) Hy4 rfl
              have c2 := cell_of (j := 2) Hy4 rfl
              have c3 := cell_of (j := 3) Hy4 rfl
              have c4 := cell_of (j := 4) Hy4 rfl
              have c5 := cell_of (j := 5) Hy4 rfl
              have c6 := cell_of (j := 6) Hy4 rfl
              have c7 := cell_of (j := 7) Hy4 rfl
              have c8 := cell_of (j := 8) Hy4 rfl
              have key := mayN i j hi17 hj17 hc4 Hx4 gx gy T4.size (w0.heap.size + 1) ys.length (ksOf ys).reverse in2 (by rw [hlR]; omega) _ ⟨_, R4, by decide, hrv⟩
              rw [hlR, mayZ_rev] at key
              go_wp2_with fail
              refine key.mono ?_
              rintro e w5 ⟨rfl, ⟨s5, v5, hc5⟩, t5⟩
              have T5 := T4.trans t5
              have Hx5 := Hx4.kept t5
              have Hy5 := Hy4.kept t5
              have A5 := t5.keep _ _ A4 (by simp [Fixed])
              have R5 := t5.keep _ _ R4 (by simp [Fixed])
              have M5 := t5.keep _ _ M4 (by simp [Fixed])
              clear c0 c1 c2 c3 c4 c5 c6 c7 c8
              clear key hc4 T4 t5 Hx4 Hy4 A4 R4 M4
              have c0 := cell_of (j := 0) Hy5 rfl
              have c1 := cell_of (j := 1) Hy5 rfl
              have c2 := cell_of (j := 2) Hy5 rfl
              have c3 := cell_of (j := 3) Hy5 rfl
              have c4 := cell_of (j := 4) Hy5 rfl
              have c5 := cell_of (j := 5) Hy5 rfl
              have c6 := cell_of (j := 6) Hy5 rfl
              have c7 := cell_of (j := 7) Hy5 rfl
              have c8 := cell_of (j := 8) Hy5 rfl
              have key := mayN i j hi17 hj17 hc5 Hx5 gx gy T5.size g cap3 (ksOf ys ++ ksOf es) in3 hlM _ ⟨_, M5, by decide, hms⟩
              rw [List.length_append, hkl, hkl2] at key
              go_wp2_with fail
              refine key.mono ?_
              rintro e w6 ⟨rfl, ⟨s6, v6, hc6⟩, t6⟩
              have T6 := T5.trans t6
              have Hx6 := Hx5.kept t6
              have Hy6 := Hy5.kept t6
              have A6 := t6.keep _ _ A5 (by simp [Fixed])
              have R6 := t6.keep _ _ R5 (by simp [Fixed])
              have M6 := t6.keep _ _ M5 (by simp [Fixed])
              clear c0 c1 c2 c3 c4 c5 c6 c7 c8
              clear key hc5 T5 t6 Hx5 Hy5 A5 R5 M5
              have hmono := mayZ_more i j (ksOf ys) (ksOf es)
              generalize mayZ i j (ksOf ys ++ ksOf es) = r2 at hmono
              generalize mayZ i j (ksOf ys) = r1 at hmono
              cases r1
              · go_wp2
                go_ret
                exact ⟨rfl, T6.below⟩
              · obtain rfl := hmono rfl
                go_wp2
                go_ret
                exact ⟨rfl, T6.below⟩
end Go.Proofs.YthlmcnlkmgeohaaReflFmt.nat
