/-
appendGo on a []int64 that is not empty appends the bracketed list of its elements' decimals. Condition: strconv's table of powers of ten reads as Go lays it; at most 131072 elements.
-/
import Derived.Test.YtddimfehmmnaeaaReflDoorWalkB
import Derived.Deep.RegionWith
import Derived.Deep.QuietTactic
namespace Go.Proofs.YtddimfehmmnaeaaReflDoor.ext4
open Go Go.Proofs Go.RowKit
open Go.Proofs.YtddimfehmmnaeaaReflDoor.ext Go.Proofs.YtddimfehmmnaeaaReflDoor.walk
set_option maxRecDepth 100000
set_option maxHeartbeats 8000000
theorem lt_cell {w : World} {B : Nat} (x : Addr) (v : Value) (h : w.cell? x = some v) (hx : x.block < B) {w' : World} (hb : Below B w w') : w'.cell? x = some v := by rw [hb.cell hx]; exact h
theorem own_mono {w : World} {B B' : Nat} {v : Value} {n : Nat} {xs : List Value} (hB : B' ≤ B) (h : w.ownsRow B 5 1 v n xs) : w.ownsRow B' 5 1 v n xs :=
  ⟨h.1, h.2.imp id (fun ⟨g, cap, cur, h1, h2, rest⟩ => ⟨g, cap, cur, h1, Nat.le_trans hB h2, rest⟩)⟩
theorem sappend (C : AppendIntC) (a : Addr) (b : Nat) (zs : List Int) (w : World) 
   (hz : ∀ z ∈ zs, -9223372036854775808 ≤ z ∧ z ≤ 9223372036854775807) (hlen : zs.length ≤ 131072) (hpos : 0 < zs.length)
   (ha : w.cell? a = some (.slice (some ⟨b, 0, none⟩) zs.length zs.length))
   (hb : ∀ j, j < zs.length → w.cell? ⟨b, j, none⟩ = some (.int .i64 (zs.getD j 0)))
    (htab : Lib.TabBelow Tryr.prog w.heap.size w "internal/strconv.uint64pow10" .u64 Lib.pow10Tab) :
    Calls Tryr.prog 11 #[.slice none 0 0, S a, .string ByteArray.empty, .int .i64 0] w fun e w' => ∃ v', e = .returned (.tuple #[v', .nilIface]) ∧ w'.ownsRow w.heap.size 5 1 v' (J zs zs.length ++ [93]).length (Lib.byteCells (J zs zs.length ++ [93])) ∧ Below w.heap.size w w' := by
  have hab := World.block_lt_of_cell? w a ha
  have hbb := World.block_lt_of_cell? w _ (hb 0 hpos)
  have g1 := sIsValid a
  have g2 := sKind a
  have g3 := sCanI a
  have hc : (w.alloc (.cells #[typeHandle Tryr.prog 53, .pointer (some a), .int .u64 151] 63)).cell? a = some (.slice (some ⟨b, 0, none⟩) zs.length zs.length) := by
    rw [World.cell?_alloc_lt _ _ _ hab]; exact ha
  have g4 := sIface a _ _ hc
  have g5 := sIsNil_no a _ _ _ _ hc
  have g6 := sType a
  have g7 := sElem'
  have g8 := sElemKind'
  have g9 := sLen a _ _ _ _ hc
  have gl : ∀ w' : World, w'.cell? a = some (.slice (some ⟨b, 0, none⟩) zs.length zs.length) → (callFunc 33 #[S a]).run Tryr.prog w' = .ok (.value (.int .i64 zs.length)) w' := fun w' h => sLen a _ _ _ w' h
  have gi : ∀ (w' : World) (k : Nat), k < zs.length → w'.cell? a = some (.slice (some ⟨b, 0, none⟩) zs.length zs.length) → (callFunc 35 #[S a, .int .i64 k]).run Tryr.prog w' = .ok (.value (U ⟨b, k, none⟩)) w' := fun w' k hk h => by have := sIndex a ⟨b, 0, none⟩ _ _ k hk w' h; rwa [show (⟨b, 0, none⟩ : Addr).add k = ⟨b, k, none⟩ by unfold Addr.add; split <;> simp_all] at this
  clear hc
  obtain ⟨s, hs⟩ : ∃ s, s = S a := ⟨_, rfl⟩
  have hs' : Hid (s = S a) := hs
  unfold S at *
  have t1 := fun (v : Value) (w : World) => (run_typeAssert_lacksB Tryr.underlying70 (by kernel_rfl) (by kernel_rfl) v 20 w : (Instr.typeAssert (.iface 53 v) 20 70 true).run Tryr.prog w = .ok (.tuple #[.nilIface, .bool false]) w)
  have t2 := fun (v : Value) (w : World) => (run_typeAssert_lacksB Tryr.underlying72 (by kernel_rfl) (by kernel_rfl) v 20 w : (Instr.typeAssert (.iface 53 v) 20 72 true).run Tryr.prog w = .ok (.tuple #[.nilIface, .bool false]) w)
  have t3 := fun (v : Value) (w : World) => (run_typeAssert_lacksB Tryr.underlying74 (by kernel_rfl) (by kernel_rfl) v 20 w : (Instr.typeAssert (.iface 53 v) 20 74 true).run Tryr.prog w = .ok (.tuple #[.nilIface, .bool false]) w)
  clear hs hs'
  go_enter Tryr.func11, Tryr.ntmps11
  go_wp2_with (first | (at_builtin; refine app1 rfl (.tmp 166) (.tmp 167) rfl (w.heap.size + 1) (w.alloc (.cells #[typeHandle Tryr.prog 53, .pointer (some a), .int .u64 151] 63)) _ (.slice none 0 0) [] 91 91 rfl rfl (w.heap.size + 1) (by simp) rfl (World.ownsRow_nil _ _ _ _) (Below.refl _ _) (by simp) (by simp) ?_))
  intro v1 w1 ho1 hb1
  clear g4 g5 g9 t1 t2 t3 g6 g7 g8 g1 g2 g3
  generalize hW : (w.alloc (.cells #[typeHandle Tryr.prog 53, .pointer (some a), .int .u64 151] 63)) = W at *
  have hWs : W.heap.size = w.heap.size + 1 := by rw [← hW]; simp
  have cv : ∀ j u, #[typeHandle Tryr.prog 53, .pointer (some a), .int .u64 151][j]? = some u → W.cell? ⟨w.heap.size, j, none⟩ = some u := by
    intro j u hu; rw [← hW]; rw [World.cell?_alloc_at]; exact hu; rfl
  have ca : W.cell? a = some (.slice (some ⟨b, 0, none⟩) zs.length zs.length) := by rw [← hW, World.cell?_alloc_lt _ _ _ hab]; exact ha
  have ce : ∀ j, j < zs.length → W.cell? ⟨b, j, none⟩ = some (.int .i64 (zs.getD j 0)) := by
    intro j hj; rw [← hW, World.cell?_alloc_lt _ _ _ hbb]; exact hb j hj
  have hbW : Below w.heap.size w W := by rw [← hW]; exact (Below.refl _ _).alloc (Nat.le_refl _) _
  have htW : Lib.TabBelow Tryr.prog (w.heap.size + 1) W "internal/strconv.uint64pow10" .u64 Lib.pow10Tab := fun w' h' => htab w' (hbW.trans (h'.mono (by omega)))
  have hzg : ∀ k, k < zs.length → -9223372036854775808 ≤ zs.getD k 0 ∧ zs.getD k 0 ≤ 9223372036854775807 := by
    intro k hk
    refine hz _ ?_
    simp [List.getD_eq_getElem?_getD, List.getElem?_eq_getElem hk]
  clear hW htab ha hb
  go_wp2
  go_loopw [0, 11] (fun v i wr => ∃ k : Nat, k ≤ zs.length ∧ i = .int .i64 k ∧ wr.ownsRow (w.heap.size + 1) 5 1 v (J zs k).length (Lib.byteCells (J zs k)) ∧ Below (w.heap.size + 1) W wr)
    (fun _ i _ => zs.length - (intOf i).toNat)
  case atStart => exact ⟨0, Nat.zero_le _, rfl, ho1, hb1⟩
  case round =>
    obtain ⟨k, hk, rfl, hown, hnx⟩ := hrel
    have hJ := J_le zs hz k hk
    have hsz := hnx.size
    have c0 := lt_cell _ _ (cv 0 _ rfl) (by simp) hnx
    have c1 := lt_cell _ _ (cv 1 _ rfl) (by simp) hnx
    have c2 := lt_cell _ _ (cv 2 _ rfl) (by simp) hnx
    have ca1 := lt_cell _ _ ca (by omega) hnx
    have g9 := gl wr ca1
    clear ca1
    go_wp2_with (first | (at_builtin; refine app1 rfl (.tmp 177) (.tmp 178) rfl (w.heap.size + 1) W _ _ (J zs k) 44 44 rfl rfl _ rfl rfl hown hnx (by omega) (by omega) ?_))
    · intro v2 w2 ho2 hb2
      have hk0 : 0 < k := by assumption
      have hlt : k < zs.length := by assumption
      have hsep : J zs k ++ [44] = J zs k ++ sep k := by unfold sep; rw [if_neg (by omega)]
      have ho2 : w2.ownsRow (w.heap.size + 1) 5 1 v2 (J zs k ++ sep k).length (Lib.byteCells (J zs k ++ sep k)) := by rw [← hsep]; simpa using ho2
      have hbW2 := hb2.size
      have d0 := lt_cell _ _ (cv 0 _ rfl) (by simp) hb2
      have d1 := lt_cell _ _ (cv 1 _ rfl) (by simp) hb2
      have d2 := lt_cell _ _ (cv 2 _ rfl) (by simp) hb2
      have ca2 := lt_cell _ _ ca (by omega) hb2
      have ce2 := lt_cell _ _ (ce k hlt) (by simp; omega) hb2
      have gx := gi w2.drew k hlt ca2
      have hJ2 : (J zs k ++ sep k).length ≤ 23 * 131072 := by have := sep_le k; simp; omega
      have ua := uappend C (w.heap.size + 1) (J zs k ++ sep k).length v2 (Lib.byteCells (J zs k ++ sep k)) (IntKind.i64.wrap 1) (by decide) (by decide) ⟨b, k, none⟩ (zs.getD k 0) (hzg k hlt).1 (hzg k hlt).2 w2.drew ce2 ho2 (by simp; omega) (by omega) (htW.on hb2.drew)
      clear c0 c1 c2 g9 ca2 hown
      go_wp2
      go_region_with (first | (go_at_call 34; refine (newLine_empty _ _ _).mono ?_; rintro e w' ⟨rfl, rfl⟩) | (go_at_call 11; refine ua.mono ?_; rintro e w3 ⟨v3, rfl, ho3, hb3, _⟩))
      all_goals
        have ho4 : w3.ownsRow (w.heap.size + 1) 5 1 v3 (J zs (k + 1)).length (Lib.byteCells (J zs (k + 1))) := by simpa [J, Lib.byteCells, Nat.add_assoc] using ho3
        have hb4 := hb2.drew.trans hb3
        clear ua gx d0 d1 d2 ce2 ho3 hb3 ho2 hb2
        go_wp2
        go_roundw
        case rel => exact ⟨k + 1, by omega, by go_num, ho4, hb4⟩
        case measure => simp [intOf]; omega
    · have hk0 : ¬ 0 < k := by assumption
      have hlt : k < zs.length := by assumption
      have hsep : J zs k = J zs k ++ sep k := by unfold sep; rw [if_pos (by omega)]; simp
      have ho2 : wr.ownsRow (w.heap.size + 1) 5 1 u0 (J zs k ++ sep k).length (Lib.byteCells (J zs k ++ sep k)) := by rw [← hsep]; exact hown
      have hb2 := hnx
      have hbW2 := hb2.size
      have d0 := lt_cell _ _ (cv 0 _ rfl) (by simp) hb2
      have d1 := lt_cell _ _ (cv 1 _ rfl) (by simp) hb2
      have d2 := lt_cell _ _ (cv 2 _ rfl) (by simp) hb2
      have ca2 := lt_cell _ _ ca (by omega) hb2
      have ce2 := lt_cell _ _ (ce k hlt) (by simp; omega) hb2
      have gx := gi wr.drew k hlt ca2
      have hJ2 : (J zs k ++ sep k).length ≤ 23 * 131072 := by have := sep_le k; simp; omega
      have ua := uappend C (w.heap.size + 1) (J zs k ++ sep k).length u0 (Lib.byteCells (J zs k ++ sep k)) (IntKind.i64.wrap 1) (by decide) (by decide) ⟨b, k, none⟩ (zs.getD k 0) (hzg k hlt).1 (hzg k hlt).2 wr.drew ce2 ho2 (by simp; omega) (by omega) (htW.on hb2.drew)
      clear c0 c1 c2 g9 ca2 hown
      go_wp2
      go_region_with (first | (go_at_call 34; refine (newLine_empty _ _ _).mono ?_; rintro e w' ⟨rfl, rfl⟩) | (go_at_call 11; refine ua.mono ?_; rintro e w3 ⟨v3, rfl, ho3, hb3, _⟩))
      all_goals
        have ho4 : w3.ownsRow (w.heap.size + 1) 5 1 v3 (J zs (k + 1)).length (Lib.byteCells (J zs (k + 1))) := by simpa [J, Lib.byteCells, Nat.add_assoc] using ho3
        have hb4 := hb2.drew.trans hb3
        clear ua gx d0 d1 d2 ce2 ho3 hb3 ho2 hb2
        go_wp2
        go_roundw
        case rel => exact ⟨k + 1, by omega, by go_num, ho4, hb4⟩
        case measure => simp [intOf]; omega
    · have hge : ¬ k < zs.length := by assumption
      have hkl : k = zs.length := by omega
      subst hkl
      clear c0 c1 c2 g9
      go_wp2_with (first | (go_at_call 34; refine (newLine_empty _ _ _).mono ?_; rintro e w' ⟨rfl, rfl⟩) | (at_builtin; refine app1 rfl (.tmp 202) (.tmp 203) rfl (w.heap.size + 1) W _ _ (J zs zs.length) 93 93 rfl rfl _ rfl rfl hown hnx (by omega) (by omega) ?_))
      intro v2 w2 ho2 hb2
      go_wp2
      go_ret2
      have hfin : Below w.heap.size W w2 := hb2.mono (Nat.le_succ _)
      exact ⟨v2, rfl, own_mono (B := w.heap.size + 1) (B' := w.heap.size) (by omega) (by simpa using ho2), hbW.trans hfin⟩
end Go.Proofs.YtddimfehmmnaeaaReflDoor.ext4
