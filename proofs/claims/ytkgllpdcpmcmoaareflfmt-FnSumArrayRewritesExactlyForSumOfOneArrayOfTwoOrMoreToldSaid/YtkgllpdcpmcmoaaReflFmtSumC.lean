/-
The build of a sum over this cut: its nodes and where they lie. No condition.
-/
import Derived.Test.YtkgllpdcpmcmoaaReflFmtSumA
import Derived.Laws.AppendOwn
import Derived.Laws.MakeOwn
import Derived.OwnWalk
import Derived.Deep.OwnRows
namespace Go.Proofs.YtkgllpdcpmcmoaaReflFmt.opt
open Go Go.Proofs Go.RowKit
set_option maxRecDepth 100000
set_option maxHeartbeats 8000000
theorem infoNd : (Tryr.prog.info? 40).map (fun i => (i.zero, i.size, i.bytes)) = some (some .nilIface, 1, 16) := by kernel_rfl
/-- a sum over a row of integers, as it lies in memory -/
structure SumAt (w : World) (name : ByteArray) (t rt sm ar ag na ca e0 : Nat) (zs : List Int) : Prop where
  root : w.heap[rt]? = some (.cells #[(.iface 76 (.pointer (some ⟨sm, 0, none⟩)))] 40 (0, 0))
  sum : w.heap[sm]? = some (.cells (nodeC t #[.string name, .slice (some ⟨ag, 0, none⟩) na ca, .bool false, .nilIface, .pointer none]) 79 (0, 0))
  args : w.cell? ⟨ag, 0, none⟩ = some (.iface 73 (.pointer (some ⟨ar, 0, none⟩)))
  arr : w.heap[ar]? = some (.cells (nodeC 0 #[.slice (some ⟨e0, 0, none⟩) zs.length zs.length]) 75 (0, 0))
  els : ∀ i, i < zs.length → w.cell? ⟨e0, i, none⟩ = some (.iface 59 (.pointer (some ⟨(e0 + 1) + i, 0, none⟩)))
  ints : ∀ i, i < zs.length → w.heap[(e0 + 1 + i)]? = some (.cells (nodeC 0 #[.int .i64 (zs.getD i 0)]) 72 (0, 0))
theorem SumAt.keep {w w' : World} {S : Nat → Prop} (q : But S w w') {name : ByteArray} {t rt sm ar ag na ca e0 : Nat} {zs : List Int} (h : SumAt w name t rt sm ar ag na ca e0 zs)
    (hS : ∀ k, S k → k ≠ rt ∧ k ≠ sm ∧ k ≠ ar ∧ k ≠ ag ∧ k ≠ e0 ∧ (k ≤ e0 ∨ e0 + zs.length < k)) : SumAt w' name t rt sm ar ag na ca e0 zs where
  root := q.keep (fun s => (hS _ s).1 rfl) h.root
  sum := q.keep (fun s => (hS _ s).2.1 rfl) h.sum
  args := (World.cell?_of_block (w := w) (q.block ag (fun s => (hS _ s).2.2.2.1 rfl) (World.block_lt_of_cell? w _ h.args))).trans h.args
  arr := q.keep (fun s => (hS _ s).2.2.1 rfl) h.arr
  els i hi := (World.cell?_of_block (w := w) (q.block e0 (fun s => (hS _ s).2.2.2.2.1 rfl) (World.block_lt_of_cell? w _ (h.els i hi)))).trans (h.els i hi)
  ints i hi := q.keep (fun s => by have := (hS _ s).2.2.2.2.2; omega) (h.ints i hi)
/-- append of one node onto a row of the call's own -/
theorem appN {ops : Array Oper} {rest : List Oper} {o : Oper} {a : Act} {Q : Exit → Act → World → Prop} (hgd : o.guard = none) (s x : Operand)
    (ho : o.op = .call { callee := .builtin .append, args := #[s, x], argTypes := #[41, 41] })
    (B : Nat) (w0 w : World) (v : Value) (l : List Value) (T b : Nat) (hs : a.eval s = v) (g : Nat) (hg0 : g = w.heap.size) (hx : a.eval x = .slice (some ⟨g, 0, none⟩) 1 1)
    (hown : w.ownsRow B 40 1 v l.length l) (hv : v ≠ .slice none 0 0) (hb : Below B w0 w) (hB : B ≤ w.heap.size) (hl : l.length + 1 ≤ 1048576)
    (h : ∀ v' w', w'.ownsRow B 40 1 v' (l ++ [Value.iface T (.pointer (some ⟨b, 0, none⟩))]).length (l ++ [Value.iface T (.pointer (some ⟨b, 0, none⟩))]) → v' ≠ .slice none 0 0 → Below B w0 w' → wpList Tryr.prog ops Q rest (a.put o.dst v') w') :
    wpList Tryr.prog ops Q (o :: rest) a (w.alloc (.cells #[(.iface T (.pointer (some ⟨b, 0, none⟩)))] 40)) := by
  subst hg0
  obtain ⟨i0, hi, hz0, hz1, hz2⟩ := info_parts infoNd
  refine wpList_append_own _ hgd s x 41 ho B 40 i0 .nilIface 1 16 Tryr.underlying41 hi hz0 hz1 hz2 rfl (by decide) v l.length l hs (hown.alloc _) ⟨w.heap.size, 0, none⟩ 1 1 [(.iface T (.pointer (some ⟨b, 0, none⟩)))] hx rfl ?_ ?_ ?_ ?_ ?_ ?_
  · intro j u hj
    match j, hj with
    | 0, hj => simp at hj; subst hj; simp [Addr.add]
  · intro u hu; simp at hu; subst hu; rfl
  · unfold maxLen; omega
  · omega
  · simp; omega
  · intro v' w' hown' hg hiff
    refine h v' w' (by simpa using hown') (fun e => hv (hiff.1 e).1) ?_
    exact (hb.alloc hB _).grown hg (by simp; omega) (fun k hk => (hown.lt k hk).1)
theorem buildSum (name : ByteArray) (t : Nat) (ht : t ≤ 4) (sv : Option Addr) (v0 off c : Nat) (zs : List Int) (hsv : zs = [] ∨ sv = some ⟨v0, off, none⟩) (hn : zs.length ≤ 4096) (w : World) (hv0 : zs ≠ [] → v0 < w.heap.size)
    (hc : ∀ j, j < zs.length → w.cell? ⟨v0, off + j, none⟩ = some (.int .i64 (zs.getD j 0))) :
    Calls Tryr.prog 6 #[.string name, .slice sv zs.length c, .bool false, .int .i64 t] w fun e w' => ∃ rt sm ar ag ca e0, e = .returned (.agg #[(.pointer (some ⟨rt, 0, none⟩)), (.iface 76 (.pointer (some ⟨sm, 0, none⟩))), (.iface 73 (.pointer (some ⟨ar, 0, none⟩))), .slice (some ⟨e0, 0, none⟩) zs.length zs.length]) ∧
      SumAt w' name t rt sm ar ag 1 ca e0 zs ∧ w.heap.size < e0 ∧ e0 + zs.length < ar ∧ ar < ag ∧ ag < sm ∧ sm < rt ∧ 1 ≤ ca ∧ But (fun _ => False) w w' := by
  have hm := run_make_row' (P := Tryr.prog) 41 40 .nilIface 16 Tryr.underlying41 infoNd rfl .i64 .i64 zs.length (by omega) (by omega)
  go_enter Tryr.func6, Tryr.ntmps6
  go_wp2
  clear hm
  go_loopw [10] (fun vi wr => ∃ (m : Nat), m ≤ zs.length ∧ vi = .int .i64 m ∧ Hid (wr.heap.size = w.heap.size + 2 + m) ∧
      (∃ cs, wr.heap[w.heap.size + 1]? = some (.cells cs 40 (0, 0)) ∧ cs.size = zs.length ∧ ∀ k, k < m → cs[k]? = some (.iface 59 (.pointer (some ⟨(w.heap.size + 1 + 1) + k, 0, none⟩)))) ∧
      (∀ k, k < m → wr.heap[(w.heap.size + 1 + 1 + k)]? = some (.cells (nodeC 0 #[.int .i64 (zs.getD k 0)]) 72 (0, 0))) ∧
      wr.heap[w.heap.size]? = some (.cells #[.pointer none, .nilIface, .nilIface, .slice none 0 0] 43 (0, 0)) ∧ Below w.heap.size w wr)
    (fun vi _ => zs.length - (intOf vi).toNat)
  case atStart =>
    refine ⟨0, Nat.zero_le _, rfl, ?_, ⟨madeCells #[.nilIface] zs.length, ?_, ?_, fun k hk => by omega⟩, fun k hk => by omega, ?_, ?_⟩
    · show _ = _
      simp
    · have := h_new (w.alloc (.cells #[.pointer none, .nilIface, .nilIface, .slice none 0 0] 43)) (.cells (madeCells #[.nilIface] zs.length) 40)
      rwa [World.size_alloc] at this
    · simp [madeCells]
    · exact h_old _ (h_new _ _)
    · exact ((Below.refl _ _).alloc (Nat.le_refl _) _).alloc (by simp) _
  case round =>
    obtain ⟨m, hm, rfl, hsz, ⟨cs, hcs, hcz, hset⟩, hints, h8, hnx⟩ := hrel
    by_cases hlt : m < zs.length
    · have hne : zs ≠ [] := by intro e; rw [e] at hlt; exact absurd hlt (Nat.not_lt_zero _)
      obtain rfl := hsv.resolve_left hne
      have hv0 := hv0 hne
      have cy := (hnx.cell (by exact hv0)).trans (hc m hlt)
      have hlen : zs.length ≤ 4096 := hn
      have hzz : zs.getD m 0 = zs.getD m 0 := rfl
      have hints2 : ∀ z, z = zs.getD m 0 → ∀ x : World, x.heap[w.heap.size + 1 + 1 + m]? = some (.cells (nodeC 0 #[.int .i64 z]) 72 (0, 0)) → (∀ k, k < m → x.heap[(w.heap.size + 1 + 1 + k)]? = some (.cells (nodeC 0 #[.int .i64 (zs.getD k 0)]) 72 (0, 0))) → ∀ k, k < m + 1 → x.heap[(w.heap.size + 1 + 1 + k)]? = some (.cells (nodeC 0 #[.int .i64 (zs.getD k 0)]) 72 (0, 0)) := by
        intro z hz x h1 h2 k hk
        by_cases e : k = m
        · subst e; rw [← hz]; exact h1
        · exact h2 k (by omega)
      have hz2 : ∀ z, z = zs.getD m 0 → Hid (z = zs.getD m 0) := fun _ h => h
      generalize hzm : zs.getD m 0 = z at cy
      have HZ := hz2 z hzm.symm
      clear hz2 hzm hzz hc hn
      have cc : wr.cell? ⟨w.heap.size + 1, m, none⟩ = some (cs[m]'(by omega)) := cell_of hcs (by simp [hcz, hlt])
      have fc := frozen_of (j := m) hcs
      have lcs := lt_of hcs
      have hws := hsz.out
      have hset2 : ∀ k, k < m + 1 → (cs.setIfInBounds m (.iface 59 (.pointer (some ⟨wr.heap.size, 0, none⟩))))[k]? = some (.iface 59 (.pointer (some ⟨(w.heap.size + 1 + 1) + k, 0, none⟩))) := by
        intro k hk
        by_cases e : k = m
        · subst e
          rw [Array.getElem?_setIfInBounds_self_of_lt (by omega), hws]
        · rw [Array.getElem?_setIfInBounds_ne (fun h => e h.symm)]; exact hset k (by omega)
      clear hws
      go_wp2
      refine ⟨⟨m + 1, by omega, by simp, ?_, ⟨_, h_old _ (h_set _ hcs), by simp [hcz], hset2⟩, ?_, ?_, ?_⟩, by simp [intOf]; omega⟩
      · show _ = _
        have := hsz.out
        simp; omega
      · refine hints2 z HZ.out _ ?_ ?_
        · have e : w.heap.size + 1 + 1 + m = (wr.setCell ⟨w.heap.size + 1, m, none⟩ (.iface 59 (.pointer (some ⟨wr.heap.size, 0, none⟩)))).heap.size := by have := hsz.out; simp; omega
          rw [e, lit1]
          exact h_new _ _
        · intro k hk
          exact h_old _ ((h_set_ne _ (by simp; omega)).trans (hints k hk))
      · exact h_old _ ((h_set_ne _ (by simp)).trans h8)
      · exact (hnx.setCell (by simp) _).alloc (by have := hnx.size; simp; omega) _
    · have hml : m = zs.length := by omega
      subst hml
      have hszw : w.heap.size + 2 + zs.length ≤ wr.heap.size := Nat.le_of_eq hsz.out.symm
      clear hc
      have lwr := hnx.size
      have hAA := lit1 (.slice (some ⟨w.heap.size + 1, 0, none⟩) zs.length zs.length)
      have hels0 : ∀ k, k < zs.length → wr.cell? ⟨w.heap.size + 1, k, none⟩ = some (.iface 59 (.pointer (some ⟨(w.heap.size + 1 + 1) + k, 0, none⟩))) := fun k hk => cell_of hcs (hset k hk)
      have le0 := lt_of hcs
      have lrb := lt_of h8
      clear hcs hcz hset
      · have h8A := h_old (.cells #[(.iface 73 (.pointer (some ⟨wr.heap.size, 0, none⟩)))] 40) (h_old (.cells (nodeC 0 #[.slice (some ⟨w.heap.size + 1, 0, none⟩) zs.length zs.length]) 75) h8)
        have harrA := h_old (.cells #[(.iface 73 (.pointer (some ⟨wr.heap.size, 0, none⟩)))] 40) (h_new wr (.cells (nodeC 0 #[.slice (some ⟨w.heap.size + 1, 0, none⟩) zs.length zs.length]) 75))
        have hargsA : ((wr.alloc (.cells (nodeC 0 #[.slice (some ⟨w.heap.size + 1, 0, none⟩) zs.length zs.length]) 75)).alloc (.cells #[(.iface 73 (.pointer (some ⟨wr.heap.size, 0, none⟩)))] 40)).cell? ⟨wr.heap.size + 1, 0, none⟩ = some (.iface 73 (.pointer (some ⟨wr.heap.size, 0, none⟩))) := cell_of (h_new1 wr (.cells (nodeC 0 #[.slice (some ⟨w.heap.size + 1, 0, none⟩) zs.length zs.length]) 75) (.cells #[(.iface 73 (.pointer (some ⟨wr.heap.size, 0, none⟩)))] 40)) rfl
        have helsA : ∀ i, i < zs.length → ((wr.alloc (.cells (nodeC 0 #[.slice (some ⟨w.heap.size + 1, 0, none⟩) zs.length zs.length]) 75)).alloc (.cells #[(.iface 73 (.pointer (some ⟨wr.heap.size, 0, none⟩)))] 40)).cell? ⟨w.heap.size + 1, i, none⟩ = some (.iface 59 (.pointer (some ⟨(w.heap.size + 1 + 1) + i, 0, none⟩))) := fun i hi => up (up (hels0 i hi))
        have hintsA : ∀ i, i < zs.length → ((wr.alloc (.cells (nodeC 0 #[.slice (some ⟨w.heap.size + 1, 0, none⟩) zs.length zs.length]) 75)).alloc (.cells #[(.iface 73 (.pointer (some ⟨wr.heap.size, 0, none⟩)))] 40)).heap[(w.heap.size + 1 + 1 + i)]? = some (.cells (nodeC 0 #[.int .i64 (zs.getD i 0)]) 72 (0, 0)) := fun i hi => h_old _ (h_old _ (hints i hi))
        rw [hAA] at h8A harrA hargsA helsA
        simp only [hAA] at hintsA
        have hsm0 : ∀ x : Obj, (((wr.alloc (.cells #[.int .i64 0, .int .i64 0, .nilIface, .int .u64 0, .pointer none, .pointer none, .bool false, .bool false, .bool false, .bool false, .bool false, .slice (some ⟨w.heap.size + 1, 0, none⟩) zs.length zs.length] 75)).alloc (.cells #[(.iface 73 (.pointer (some ⟨wr.heap.size, 0, none⟩)))] 40)).alloc x).heap[wr.heap.size + 2]? = some x := fun x => h_new2 wr _ _ x
        have lwA : ((wr.alloc (.cells #[.int .i64 0, .int .i64 0, .nilIface, .int .u64 0, .pointer none, .pointer none, .bool false, .bool false, .bool false, .bool false, .bool false, .slice (some ⟨w.heap.size + 1, 0, none⟩) zs.length zs.length] 75)).alloc (.cells #[(.iface 73 (.pointer (some ⟨wr.heap.size, 0, none⟩)))] 40)).heap.size = wr.heap.size + 2 := by simp
        have QA : But (fun k => w.heap.size ≤ k) w ((wr.alloc (.cells #[.int .i64 0, .int .i64 0, .nilIface, .int .u64 0, .pointer none, .pointer none, .bool false, .bool false, .bool false, .bool false, .bool false, .slice (some ⟨w.heap.size + 1, 0, none⟩) zs.length zs.length] 75)).alloc (.cells #[(.iface 73 (.pointer (some ⟨wr.heap.size, 0, none⟩)))] 40)) := (((But.ofBelow hnx _).alloc _).alloc _)
        have hsm : (((wr.alloc (.cells #[.int .i64 0, .int .i64 0, .nilIface, .int .u64 0, .pointer none, .pointer none, .bool false, .bool false, .bool false, .bool false, .bool false, .slice (some ⟨w.heap.size + 1, 0, none⟩) zs.length zs.length] 75)).alloc (.cells #[(.iface 73 (.pointer (some ⟨wr.heap.size, 0, none⟩)))] 40)).alloc (.cells #[.int .i64 0, .int .i64 0, .nilIface, .int .u64 0, .pointer none, .pointer none, .bool false, .bool false, .bool false, .bool false, .bool false, .string name, .slice (some ⟨wr.heap.size + 1, 0, none⟩) 1 1, .bool false, .nilIface, .pointer none] 79)).heap[wr.heap.size + 2]? = some (.cells (nodeC 0 #[.string name, .slice (some ⟨wr.heap.size + 1, 0, none⟩) 1 1, .bool false, .nilIface, .pointer none]) 79 (0, 0)) := by rw [lit5]; exact hsm0 _
        go_wp2_with fail
        refine (setTag isPU (wr.heap.size + 2) t 79 ht #[.string name, .slice (some ⟨wr.heap.size + 1, 0, none⟩) 1 1, .bool false, .nilIface, .pointer none] _ hsm).mono ?_
        rintro e w2 ⟨rfl, q2, h2⟩
        have Q2 := (((But.refl (fun k => k = wr.heap.size + 2) ((wr.alloc (.cells #[.int .i64 0, .int .i64 0, .nilIface, .int .u64 0, .pointer none, .pointer none, .bool false, .bool false, .bool false, .bool false, .bool false, .slice (some ⟨w.heap.size + 1, 0, none⟩) zs.length zs.length] 75)).alloc (.cells #[(.iface 73 (.pointer (some ⟨wr.heap.size, 0, none⟩)))] 40))).alloc (.cells #[.int .i64 0, .int .i64 0, .nilIface, .int .u64 0, .pointer none, .pointer none, .bool false, .bool false, .bool false, .bool false, .bool false, .string name, .slice (some ⟨wr.heap.size + 1, 0, none⟩) 1 1, .bool false, .nilIface, .pointer none] 79)).trans q2)
        have h82 := Q2.keep (by omega) h8A
        have harr2 := Q2.keep (by omega) harrA
        have hargs2 := (World.cell?_of_block (w := ((wr.alloc (.cells #[.int .i64 0, .int .i64 0, .nilIface, .int .u64 0, .pointer none, .pointer none, .bool false, .bool false, .bool false, .bool false, .bool false, .slice (some ⟨w.heap.size + 1, 0, none⟩) zs.length zs.length] 75)).alloc (.cells #[(.iface 73 (.pointer (some ⟨wr.heap.size, 0, none⟩)))] 40))) (Q2.block (wr.heap.size + 1) (by omega) (World.block_lt_of_cell? _ _ hargsA))).trans hargsA
        have hels2 : ∀ i, i < zs.length → w2.cell? ⟨w.heap.size + 1, i, none⟩ = some (.iface 59 (.pointer (some ⟨(w.heap.size + 1 + 1) + i, 0, none⟩))) := fun i hi => (World.cell?_of_block (w := ((wr.alloc (.cells #[.int .i64 0, .int .i64 0, .nilIface, .int .u64 0, .pointer none, .pointer none, .bool false, .bool false, .bool false, .bool false, .bool false, .slice (some ⟨w.heap.size + 1, 0, none⟩) zs.length zs.length] 75)).alloc (.cells #[(.iface 73 (.pointer (some ⟨wr.heap.size, 0, none⟩)))] 40))) (Q2.block (w.heap.size + 1) (by omega) (by omega))).trans (helsA i hi)
        have hints2 : ∀ i, i < zs.length → w2.heap[(w.heap.size + 1 + 1 + i)]? = some (.cells (nodeC 0 #[.int .i64 (zs.getD i 0)]) 72 (0, 0)) := fun i hi => Q2.keep (by omega) (hintsA i hi)
        have l2 := Q2.size
        have lsm := lt_of h2
        have QB := QA.trans (Q2.mono (S' := fun k => w.heap.size ≤ k) (fun k hk => by omega))
        clear Q2 q2 hsm h8A harrA hargsA helsA hintsA QA
        have lrb2 := lt_of h82
        have g0 := h82
        have c0 : w2.cell? ⟨w.heap.size, 0, none⟩ = some (.pointer none) := cell_of g0 (by simp)
        have f0 := frozen_of g0 (j := 0)
        have g1 := h_set (j := 0) (.pointer (some ⟨w2.heap.size, 0, none⟩)) g0
        have c1 : (w2.setCell ⟨w.heap.size, 0, none⟩ (.pointer (some ⟨w2.heap.size, 0, none⟩))).cell? ⟨w.heap.size, 1, none⟩ = some .nilIface := cell_of g1 (by simp)
        have f1 := frozen_of g1 (j := 1)
        have g2 := h_set (j := 1) (.iface 76 (.pointer (some ⟨wr.heap.size + 2, 0, none⟩))) g1
        have c2 : ((w2.setCell ⟨w.heap.size, 0, none⟩ (.pointer (some ⟨w2.heap.size, 0, none⟩))).setCell ⟨w.heap.size, 1, none⟩ (.iface 76 (.pointer (some ⟨wr.heap.size + 2, 0, none⟩)))).cell? ⟨w.heap.size, 2, none⟩ = some .nilIface := cell_of g2 (by simp)
        have f2 := frozen_of g2 (j := 2)
        have g3 := h_set (j := 2) (.iface 73 (.pointer (some ⟨wr.heap.size, 0, none⟩))) g2
        have c3 : (((w2.setCell ⟨w.heap.size, 0, none⟩ (.pointer (some ⟨w2.heap.size, 0, none⟩))).setCell ⟨w.heap.size, 1, none⟩ (.iface 76 (.pointer (some ⟨wr.heap.size + 2, 0, none⟩)))).setCell ⟨w.heap.size, 2, none⟩ (.iface 73 (.pointer (some ⟨wr.heap.size, 0, none⟩)))).cell? ⟨w.heap.size, 3, none⟩ = some (.slice none 0 0) := cell_of g3 (by simp)
        have f3 := frozen_of g3 (j := 3)
        have g4 := h_set (j := 3) (.slice (some ⟨w.heap.size + 1, 0, none⟩) zs.length zs.length) g3
        have z0 : ((((w2.setCell ⟨w.heap.size, 0, none⟩ (.pointer (some ⟨w2.heap.size, 0, none⟩))).setCell ⟨w.heap.size, 1, none⟩ (.iface 76 (.pointer (some ⟨wr.heap.size + 2, 0, none⟩)))).setCell ⟨w.heap.size, 2, none⟩ (.iface 73 (.pointer (some ⟨wr.heap.size, 0, none⟩)))).setCell ⟨w.heap.size, 3, none⟩ (.slice (some ⟨w.heap.size + 1, 0, none⟩) zs.length zs.length)).cell? ⟨w.heap.size, 0, none⟩ = some (.pointer (some ⟨w2.heap.size, 0, none⟩)) := cell_of g4 (by simp)
        have z1 : ((((w2.setCell ⟨w.heap.size, 0, none⟩ (.pointer (some ⟨w2.heap.size, 0, none⟩))).setCell ⟨w.heap.size, 1, none⟩ (.iface 76 (.pointer (some ⟨wr.heap.size + 2, 0, none⟩)))).setCell ⟨w.heap.size, 2, none⟩ (.iface 73 (.pointer (some ⟨wr.heap.size, 0, none⟩)))).setCell ⟨w.heap.size, 3, none⟩ (.slice (some ⟨w.heap.size + 1, 0, none⟩) zs.length zs.length)).cell? ⟨w.heap.size, 1, none⟩ = some (.iface 76 (.pointer (some ⟨wr.heap.size + 2, 0, none⟩))) := cell_of g4 (by simp)
        have z2 : ((((w2.setCell ⟨w.heap.size, 0, none⟩ (.pointer (some ⟨w2.heap.size, 0, none⟩))).setCell ⟨w.heap.size, 1, none⟩ (.iface 76 (.pointer (some ⟨wr.heap.size + 2, 0, none⟩)))).setCell ⟨w.heap.size, 2, none⟩ (.iface 73 (.pointer (some ⟨wr.heap.size, 0, none⟩)))).setCell ⟨w.heap.size, 3, none⟩ (.slice (some ⟨w.heap.size + 1, 0, none⟩) zs.length zs.length)).cell? ⟨w.heap.size, 2, none⟩ = some (.iface 73 (.pointer (some ⟨wr.heap.size, 0, none⟩))) := cell_of g4 (by simp)
        have z3 : ((((w2.setCell ⟨w.heap.size, 0, none⟩ (.pointer (some ⟨w2.heap.size, 0, none⟩))).setCell ⟨w.heap.size, 1, none⟩ (.iface 76 (.pointer (some ⟨wr.heap.size + 2, 0, none⟩)))).setCell ⟨w.heap.size, 2, none⟩ (.iface 73 (.pointer (some ⟨wr.heap.size, 0, none⟩)))).setCell ⟨w.heap.size, 3, none⟩ (.slice (some ⟨w.heap.size + 1, 0, none⟩) zs.length zs.length)).cell? ⟨w.heap.size, 3, none⟩ = some (.slice (some ⟨w.heap.size + 1, 0, none⟩) zs.length zs.length) := cell_of g4 (by simp)
        have Q4 := ((((But.refl (fun k => k = w.heap.size) w2).setCell (p := ⟨w.heap.size, 0, none⟩) rfl (.pointer (some ⟨w2.heap.size, 0, none⟩))).setCell (p := ⟨w.heap.size, 1, none⟩) rfl (.iface 76 (.pointer (some ⟨wr.heap.size + 2, 0, none⟩)))).setCell (p := ⟨w.heap.size, 2, none⟩) rfl (.iface 73 (.pointer (some ⟨wr.heap.size, 0, none⟩)))).setCell (p := ⟨w.heap.size, 3, none⟩) rfl (.slice (some ⟨w.heap.size + 1, 0, none⟩) zs.length zs.length)
        have Q5 := Q4.alloc (.cells #[(.iface 76 (.pointer (some ⟨wr.heap.size + 2, 0, none⟩)))] 40)
        have hrt := h_new ((((w2.setCell ⟨w.heap.size, 0, none⟩ (.pointer (some ⟨w2.heap.size, 0, none⟩))).setCell ⟨w.heap.size, 1, none⟩ (.iface 76 (.pointer (some ⟨wr.heap.size + 2, 0, none⟩)))).setCell ⟨w.heap.size, 2, none⟩ (.iface 73 (.pointer (some ⟨wr.heap.size, 0, none⟩)))).setCell ⟨w.heap.size, 3, none⟩ (.slice (some ⟨w.heap.size + 1, 0, none⟩) zs.length zs.length)) (.cells #[(.iface 76 (.pointer (some ⟨wr.heap.size + 2, 0, none⟩)))] 40)
        have HK : Hid _ := And.intro h2 (And.intro harr2 (And.intro hargs2 (And.intro hels2 (And.intro hints2 (And.intro Q5 (And.intro hrt (And.intro QB (And.intro lsm (And.intro hnx hszw)))))))))
        clear g0 g1 g2 g3 g4 Q4 Q5 QB hrt h2 harr2 hargs2 hels2 hints2 h82 hnx hszw hints hels0 h8 hsm0 hAA lwA lwr le0 lrb l2 lsm hv0 hsv
        go_wp2
        obtain ⟨h2, harr2, hargs2, hels2, hints2, Q5, hrt, QB, lsm, hnx, hszw⟩ := HK.out
        try simp only [Exit.inBlock, Exit.then]
        refine bodyPost_ret (by simp [results, Tryr.results6, go_sem, z0, z1, z2, z3, lrb2]; try rfl) rfl ?_
        have hsz4 : ((((w2.setCell ⟨w.heap.size, 0, none⟩ (.pointer (some ⟨w2.heap.size, 0, none⟩))).setCell ⟨w.heap.size, 1, none⟩ (.iface 76 (.pointer (some ⟨wr.heap.size + 2, 0, none⟩)))).setCell ⟨w.heap.size, 2, none⟩ (.iface 73 (.pointer (some ⟨wr.heap.size, 0, none⟩)))).setCell ⟨w.heap.size, 3, none⟩ (.slice (some ⟨w.heap.size + 1, 0, none⟩) zs.length zs.length)).heap.size = w2.heap.size := by simp
        rw [hsz4] at hrt
        refine ⟨w2.heap.size, wr.heap.size + 2, wr.heap.size, wr.heap.size + 1, 1, w.heap.size + 1, rfl, ⟨hrt, Q5.keep (by omega) h2, ?_, Q5.keep (by omega) harr2, ?_, ?_⟩, by omega, by omega, by omega, by omega, by omega, by omega, ?_⟩
        · exact (World.cell?_of_block (w := w2) (Q5.block (wr.heap.size + 1) (by omega) (World.block_lt_of_cell? _ _ hargs2))).trans hargs2
        · exact fun i hi => (World.cell?_of_block (w := w2) (Q5.block (w.heap.size + 1) (by omega) (by omega))).trans (hels2 i hi)
        · exact fun i hi => Q5.keep (by omega) (hints2 i hi)
        · exact (QB.trans (Q5.mono (fun k hk => by omega))).none
end Go.Proofs.YtkgllpdcpmcmoaaReflFmt.opt
