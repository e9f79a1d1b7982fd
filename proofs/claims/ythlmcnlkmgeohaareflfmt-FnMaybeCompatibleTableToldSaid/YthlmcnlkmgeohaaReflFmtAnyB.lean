/-
IsAnyOf and MaybeCompatible over this cut: a nature passes a list of checks where it passes one of them. Condition: each check is one of the eight.
-/
import Derived.Test.YthlmcnlkmgeohaaReflFmtAnyA
import Derived.Lib.Hide
namespace Go.Proofs.YthlmcnlkmgeohaaReflFmt.nat
open Go Go.Proofs Go.RowKit
set_option maxRecDepth 100000
set_option maxHeartbeats 4000000
theorem any_step (zs : List Int) (k : Nat) (p : Int → Bool) (h : k < zs.length) : (zs.take (k + 1)).any p = ((zs.take k).any p || p (zs.getD k 0)) := by
  have e : zs.getD k 0 = zs[k] := by simp [List.getD_eq_getElem?_getD, h]
  rw [e, List.take_succ_eq_append_getElem h, List.any_append, List.any_cons, List.any_nil, Bool.or_false]
theorem any_of_take (zs : List Int) (k : Nat) (p : Int → Bool) (h : (zs.take k).any p = true) : zs.any p = true := by
  rw [List.any_eq_true] at h ⊢
  obtain ⟨z, hz, hp⟩ := h
  exact ⟨z, List.mem_of_mem_take hz, hp⟩
theorem anyOf {b : Nat} {w : World} {n : Nt} {td : Value} (h : Has w b n td) (g cap : Nat) (zs : List Int) (hz : ∀ z ∈ zs, 1 ≤ z ∧ z ≤ 8) (hlen : (zs.length : Int) ≤ 9223372036854775807) (hc : ∀ j, j < zs.length → w.cell? ⟨g, j, none⟩ = some (.int .i64 (zs.getD j 0))) :
    Calls Tryr.prog 29 #[.pointer (some ⟨b, 0, none⟩), .slice (some ⟨g, 0, none⟩) zs.length cap] w fun e w' => e = .returned (.bool (zs.any (satB n))) ∧ Quiet w w' := by
  go_enter Tryr.func29, Tryr.ntmps29
  go_wp2
  go_loopw [5, 6] (fun vr vi wr => ∃ (k : Nat) (r : Bool), k ≤ zs.length ∧ vr = .bool r ∧ vi = .int .i64 k ∧ Hid (r = (zs.take k).any (satB n)) ∧ Quiet w wr) (fun _ vi _ => zs.length - (intOf vi).toNat)
  case atStart => exact ⟨0, false, Nat.zero_le _, rfl, rfl, Lib.hid (by simp), Quiet.refl _⟩
  case round =>
    obtain ⟨k, r, hk, rfl, rfl, HR, Q⟩ := hrel
    cases r
    rotate_left
    · have hR := any_of_take zs k _ HR.out.symm
      by_cases hlt : k < zs.length
      · go_wp2
        go_ret
        exact ⟨by rw [hR]; rfl, Q⟩
      · go_wp2
        go_ret
        exact ⟨by rw [hR]; rfl, Q⟩
    by_cases hlt : k < zs.length
    rotate_left
    · have hkl : k = zs.length := by omega
      have hR : zs.any (satB n) = false := by have := HR.out; rw [hkl, List.take_length] at this; exact this.symm
      go_wp2
      go_ret
      exact ⟨by rw [hR]; rfl, Q⟩
    have ck := cell_quiet (hc k hlt) Q
    have hW := h.quiet Q
    have hi : wr.cell? ⟨b, 7, none⟩ = some (.bool n.i) := cell_of (j := 7) hW rfl
    have hst := any_step zs k (satB n) hlt
    rw [← HR.out, Bool.false_or] at hst
    have hmem : 1 ≤ zs.getD k 0 ∧ zs.getD k 0 ≤ 8 := by
      have e : zs.getD k 0 = zs[k] := by simp [List.getD_eq_getElem?_getD, hlt]
      rw [e]; exact hz _ (List.getElem_mem hlt)
    clear HR h hc hz
    generalize zs.getD k 0 = z at ck hst hmem
    have hcase : z = 1 ∨ z = 2 ∨ z = 3 ∨ z = 4 ∨ z = 5 ∨ z = 6 ∨ z = 7 ∨ z = 8 := by omega
    clear hmem
    rcases hcase with rfl | rfl | rfl | rfl | rfl | rfl | rfl | rfl
    · have hs : satB n 1 = kB n 1 := rfl
      rw [hs] at hst
      have key := chkBool hW
      clear hs hW hi
      go_wp2_with fail
      refine key.mono ?_
      rintro e w1 ⟨rfl, q⟩
      have Q1 := Q.trans q
      clear key Q q ck
      go_wp2
      go_roundw
      case rel => exact ⟨k + 1, kB n 1, by omega, rfl, by go_num, Lib.hid hst.symm, Q1⟩
      case measure => simp [intOf]; omega
    · have hs : satB n 2 = kB n 24 := rfl
      rw [hs] at hst
      have key := chkStr hW
      clear hs hW hi
      go_wp2_with fail
      refine key.mono ?_
      rintro e w1 ⟨rfl, q⟩
      have Q1 := Q.trans q
      clear key Q q ck
      go_wp2
      go_roundw
      case rel => exact ⟨k + 1, kB n 24, by omega, rfl, by go_num, Lib.hid hst.symm, Q1⟩
      case measure => simp [intOf]; omega
    · have hs : satB n 3 = n.i := rfl
      rw [hs] at hst
      clear hs hW
      go_wp2
      go_roundw
      case rel => exact ⟨k + 1, n.i, by omega, rfl, by go_num, Lib.hid hst.symm, Q⟩
      case measure => simp [intOf]; omega
    · have hs : satB n 4 = numB n := rfl
      rw [hs] at hst
      have key := chkNum hW
      clear hs hW hi
      go_wp2_with fail
      refine key.mono ?_
      rintro e w1 ⟨rfl, q⟩
      have Q1 := Q.trans q
      clear key Q q ck
      go_wp2
      go_roundw
      case rel => exact ⟨k + 1, numB n, by omega, rfl, by go_num, Lib.hid hst.symm, Q1⟩
      case measure => simp [intOf]; omega
    · have hs : satB n 5 = kB n 21 := rfl
      rw [hs] at hst
      have key := chkMap hW
      clear hs hW hi
      go_wp2_with fail
      refine key.mono ?_
      rintro e w1 ⟨rfl, q⟩
      have Q1 := Q.trans q
      clear key Q q ck
      go_wp2
      go_roundw
      case rel => exact ⟨k + 1, kB n 21, by omega, rfl, by go_num, Lib.hid hst.symm, Q1⟩
      case measure => simp [intOf]; omega
    · have hs : satB n 6 = arrB n := rfl
      rw [hs] at hst
      have key := chkArr hW
      clear hs hW hi
      go_wp2_with fail
      refine key.mono ?_
      rintro e w1 ⟨rfl, q⟩
      have Q1 := Q.trans q
      clear key Q q ck
      go_wp2
      go_roundw
      case rel => exact ⟨k + 1, arrB n, by omega, rfl, by go_num, Lib.hid hst.symm, Q1⟩
      case measure => simp [intOf]; omega
    · have hs : satB n 7 = timB n := rfl
      rw [hs] at hst
      have key := chkTim hW
      clear hs hW hi
      go_wp2_with fail
      refine key.mono ?_
      rintro e w1 ⟨rfl, q⟩
      have Q1 := Q.trans q
      clear key Q q ck
      go_wp2
      go_roundw
      case rel => exact ⟨k + 1, timB n, by omega, rfl, by go_num, Lib.hid hst.symm, Q1⟩
      case measure => simp [intOf]; omega
    · have hs : satB n 8 = durB n := rfl
      rw [hs] at hst
      have key := chkDur hW
      clear hs hW hi
      go_wp2_with fail
      refine key.mono ?_
      rintro e w1 ⟨rfl, q⟩
      have Q1 := Q.trans q
      clear key Q q ck
      go_wp2
      go_roundw
      case rel => exact ⟨k + 1, durB n, by omega, rfl, by go_num, Lib.hid hst.symm, Q1⟩
      case measure => simp [intOf]; omega
def mayB (n n' : Nt) (zs : List Int) : Bool := (unkB n && unkB n') || (unkB n && zs.any (satB n')) || (unkB n' && zs.any (satB n))
theorem maybe {B c b : Nat} {w : World} {s : MS} {v td td' : Value} {n n' : Nt} (hc : CacheAt B w c s v) (h : Has w b n td) (ok : Fine n td) (ok' : Fine n' td') (hB : B ≤ w.heap.size) (g cap : Nat) (zs : List Int) (hz : ∀ z ∈ zs, 1 ≤ z ∧ z ≤ 8) (hlen : (zs.length : Int) ≤ 9223372036854775807)
    (tc : Nat) (hct : ∃ cs, w.heap[g]? = some (.cells cs tc (0, 0)) ∧ tc ≠ 44 ∧ ∀ j, j < zs.length → cs[j]? = some (.int .i64 (zs.getD j 0))) :
    Calls Tryr.prog 8 #[.pointer (some ⟨b, 0, none⟩), .pointer (some ⟨c, 0, none⟩), (.agg #[tyV n'.ty, .int .u64 n'.k, td', .pointer none, .bool n'.nl, .bool false, .bool false, .bool n'.i, .bool n'.f]), .slice (some ⟨g, 0, none⟩) zs.length cap] w fun e w' => e = .returned (.bool (mayB n n' zs)) ∧ (∃ s' v', CacheAt B w' c s' v') ∧ Turned B w w' := by
  obtain ⟨cs, hg, htc, hcs⟩ := hct
  have hc0 : CacheAt B (w.alloc (.cells #[tyV n'.ty, .int .u64 n'.k, td', .pointer none, .bool n'.nl, .bool false, .bool false, .bool n'.i, .bool n'.f] 51)) c s v := hc.heap fun _ _ hb => h_old _ hb
  have h0 : Has (w.alloc (.cells #[tyV n'.ty, .int .u64 n'.k, td', .pointer none, .bool n'.nl, .bool false, .bool false, .bool n'.i, .bool n'.f] 51)) b n td := h_old _ h
  have h0' : Has (w.alloc (.cells #[tyV n'.ty, .int .u64 n'.k, td', .pointer none, .bool n'.nl, .bool false, .bool false, .bool n'.i, .bool n'.f] 51)) w.heap.size n' td' := h_new _ _
  have g0 := h_old (.cells #[tyV n'.ty, .int .u64 n'.k, td', .pointer none, .bool n'.nl, .bool false, .bool false, .bool n'.i, .bool n'.f] 51) hg
  have T0 := (Turned.refl B w).alloc hB (.cells #[tyV n'.ty, .int .u64 n'.k, td', .pointer none, .bool n'.nl, .bool false, .bool false, .bool n'.i, .bool n'.f] 51)
  have k1 := isUnknown hc0 h0 ok
  go_enter Tryr.func8, Tryr.ntmps8
  go_wp2_with fail
  refine k1.mono ?_
  rintro e w1 ⟨rfl, s1, v1, hc1, t1⟩
  have h1 := h0.kept t1
  have h1' := h0'.kept t1
  have g1 := t1.keep _ _ g0 htc
  have T1 := T0.trans t1
  clear k1 hc0 h0 h0' T0 t1 hc h g0 hg
  have k2 := isUnknown hc1 h1' ok'
  go_wp2_with fail
  refine k2.mono ?_
  rintro e w2 ⟨rfl, s2, v2, hc2, t2⟩
  have h2 := h1.kept t2
  have h2' := h1'.kept t2
  have g2 := t2.keep _ _ g1 htc
  have T2 := T1.trans t2
  have hcz : ∀ j, j < zs.length → w2.cell? ⟨g, j, none⟩ = some (.int .i64 (zs.getD j 0)) := fun j hj => cell_of g2 (hcs j hj)
  have a1 := anyOf h2 g cap zs hz hlen hcz
  have a2 := anyOf h2' g cap zs hz hlen hcz
  clear k2 hc1 h1 h1' T1 t2 g1 g2 hcs hz hcz h2 h2'
  cases hu : unkB n
  · cases hu' : unkB n'
    · go_wp2
      go_ret
      exact ⟨by simp [mayB, hu, hu'], ⟨s2, v2, hc2⟩, T2⟩
    · go_wp2_with fail
      refine a1.mono ?_
      rintro e w3 ⟨rfl, q⟩
      go_wp2
      go_ret
      exact ⟨by simp [mayB, hu, hu'], ⟨s2, v2, hc2.quiet q⟩, q.turned T2⟩
  · cases hu' : unkB n'
    · go_wp2_with fail
      refine a2.mono ?_
      rintro e w3 ⟨rfl, q⟩
      cases hz2 : zs.any (satB n')
      all_goals
        go_wp2
        go_ret
        exact ⟨by simp [mayB, hu, hu', hz2], ⟨s2, v2, hc2.quiet q⟩, q.turned T2⟩
    · go_wp2
      go_ret
      exact ⟨by simp [mayB, hu, hu'], ⟨s2, v2, hc2⟩, T2⟩
end Go.Proofs.YthlmcnlkmgeohaaReflFmt.nat
