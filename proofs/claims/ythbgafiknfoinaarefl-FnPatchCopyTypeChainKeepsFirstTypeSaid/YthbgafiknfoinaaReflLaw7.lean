/-
The law's walk: FnPatchCopyTypeChainKeepsFirstType returns true at every eight arguments. No condition.
-/
import Derived.Test.YthbgafiknfoinaaReflOptE
namespace Go.Proofs.YthbgafiknfoinaaRefl.opt
open Go Go.Proofs Go.RowKit
set_option maxRecDepth 100000
set_option maxHeartbeats 1000000
theorem bytes7 (a b c d e f g : Value) (s : ByteArray) (w : World) : Calls Tryr.prog 4 #[a, b, c, d, e, f, g, .string s] w fun e w' => e = .returned (.bool (!decide ((1048576 : Int) < s.size))) ∧ w' = w := by
  by_cases h1 : (1048576 : Int) < s.size
  · go_enter Tryr.func4, Tryr.ntmps4
    go_wp2
    go_ret
    exact ⟨by simp [h1], rfl⟩
  · go_enter Tryr.func4, Tryr.ntmps4
    go_wp2
    go_ret
    exact ⟨by simp [h1], rfl⟩
theorem tag_ans (u : Nat) (h : u ≤ 4) : tag (ans u) = u := by unfold tag ans; split <;> (split <;> omega)
theorem tag_id (u : Nat) (h : u ≤ 4) : tag u = u := by unfold tag; split <;> omega
theorem ans_ans (u : Nat) : ans (ans u) = ans u := by unfold ans; split <;> simp_all
theorem law7_in (kA kB kC iv : Int) (tA tB tC : Nat) (s : ByteArray) (w : World) (hs : s.size ≤ 4096) (hkA : 0 ≤ kA ∧ kA ≤ 8) (hkB : 0 ≤ kB ∧ kB ≤ 8) (hkC : 0 ≤ kC ∧ kC ≤ 8) (htA : tA ≤ 4) (htB : tB ≤ 4) (htC : tC ≤ 4) :
    Calls Tryr.prog 3 #[.int .i64 kA, .int .i64 tA, .int .i64 kB, .int .i64 tB, .int .i64 kC, .int .i64 tC, .int .i64 iv, .string s] w fun e w' => e = .returned (.bool true) ∧ Below w.heap.size w w' := by
  have hb1 : (!decide ((1048576 : Int) < s.size)) = true := by simp; omega
  have hs1 : ¬ ((4096 : Int) < s.size) := by omega
  have hk1 : ¬ (kA < 0) := by omega
  have hk2 : ¬ (8 < kA) := by omega
  have hk3 : ¬ (kB < 0) := by omega
  have hk4 : ¬ (8 < kB) := by omega
  have hk5 : ¬ (kC < 0) := by omega
  have hk6 : ¬ (8 < kC) := by omega
  have ht1 : ¬ ((tA : Int) < 0) := by omega
  have ht2 : ¬ ((4 : Int) < tA) := by omega
  have ht3 : ¬ ((tB : Int) < 0) := by omega
  have ht4 : ¬ ((4 : Int) < tB) := by omega
  have ht5 : ¬ ((tC : Int) < 0) := by omega
  have ht6 : ¬ ((4 : Int) < tC) := by omega
  go_enter Tryr.func3, Tryr.ntmps3
  go_wp2_with fail
  refine (bytes7 _ _ _ _ _ _ _ s _).mono ?_
  rintro e w0 ⟨rfl, rfl⟩
  rw [hb1]
  go_wp2_with fail
  clear hb1 hs1 hk1 hk2 hk3 hk4 hk5 hk6 ht1 ht2 ht3 ht4 ht5 ht6
  refine (newNode kA hkA tA htA iv s _).mono ?_
  rintro e w1 ⟨Ta, ba, Sa, fa, hTa, rfl, la, na, q1⟩
  have Q1 := (q1.alloc (.cells #[(.iface Ta (.pointer (some ⟨ba, 0, none⟩)))] 40))
  have va1 := h_new w1 (.cells #[(.iface Ta (.pointer (some ⟨ba, 0, none⟩)))] 40)
  have na1 := h_old (.cells #[(.iface Ta (.pointer (some ⟨ba, 0, none⟩)))] 40) na
  have l1 := lt_of na
  clear q1 na
  go_wp2_with fail
  refine (newNode kB hkB tB htB iv s _).mono ?_
  rintro e w2 ⟨Tb, bb, Sb, fb, hTb, rfl, lb, nb, q2⟩
  rw [World.size_alloc] at lb
  have Q2 := Q1.trans (q2.alloc (.cells #[(.iface Tb (.pointer (some ⟨bb, 0, none⟩)))] 40))
  have va2 := h_old (.cells #[(.iface Tb (.pointer (some ⟨bb, 0, none⟩)))] 40) (q2.keep id va1)
  have na2 := h_old (.cells #[(.iface Tb (.pointer (some ⟨bb, 0, none⟩)))] 40) (q2.keep id na1)
  have vb2 := h_new w2 (.cells #[(.iface Tb (.pointer (some ⟨bb, 0, none⟩)))] 40)
  have nb2 := h_old (.cells #[(.iface Tb (.pointer (some ⟨bb, 0, none⟩)))] 40) nb
  have l2 := lt_of nb
  clear q2 nb Q1 va1 na1
  go_wp2_with fail
  refine (newNode kC hkC tC htC iv s _).mono ?_
  rintro e w3 ⟨Tc, bc, Sc, fc, hTc, rfl, lc, nc, q3⟩
  rw [World.size_alloc] at lc
  have Q3 := Q2.trans (q3.alloc (.cells #[(.iface Tc (.pointer (some ⟨bc, 0, none⟩)))] 40))
  have va3 := h_old (.cells #[(.iface Tc (.pointer (some ⟨bc, 0, none⟩)))] 40) (q3.keep id va2)
  have na3 := h_old (.cells #[(.iface Tc (.pointer (some ⟨bc, 0, none⟩)))] 40) (q3.keep id na2)
  have vb3 := h_old (.cells #[(.iface Tc (.pointer (some ⟨bc, 0, none⟩)))] 40) (q3.keep id vb2)
  have nb3 := h_old (.cells #[(.iface Tc (.pointer (some ⟨bc, 0, none⟩)))] 40) (q3.keep id nb2)
  have vc3 := h_new w3 (.cells #[(.iface Tc (.pointer (some ⟨bc, 0, none⟩)))] 40)
  have nc3 := h_old (.cells #[(.iface Tc (.pointer (some ⟨bc, 0, none⟩)))] 40) nc
  have l3 := lt_of nc
  clear q3 nc Q2 va2 na2 vb2 nb2
  have c1 := cell_of va3 (j := 0) rfl
  go_wp2_with fail
  refine (newCase Ta ba _).mono ?_
  rintro e w4 ⟨r, rfl, lr, hr, q4⟩
  rw [World.size_alloc] at lr
  have l4 := lt_of hr
  have Q4 := Q3.trans (q4.alloc (.cells #[(.pointer (some ⟨r, 0, none⟩))] 44))
  have va4 := h_old (.cells #[(.pointer (some ⟨r, 0, none⟩))] 44) (q4.keep id va3)
  have na4 := h_old (.cells #[(.pointer (some ⟨r, 0, none⟩))] 44) (q4.keep id na3)
  have vb4 := h_old (.cells #[(.pointer (some ⟨r, 0, none⟩))] 44) (q4.keep id vb3)
  have nb4 := h_old (.cells #[(.pointer (some ⟨r, 0, none⟩))] 44) (q4.keep id nb3)
  have vc4 := h_old (.cells #[(.pointer (some ⟨r, 0, none⟩))] 44) (q4.keep id vc3)
  have nc4 := h_old (.cells #[(.pointer (some ⟨r, 0, none⟩))] 44) (q4.keep id nc3)
  have vp4 := h_new w4 (.cells #[(.pointer (some ⟨r, 0, none⟩))] 44)
  have hr4 := h_old (.cells #[(.pointer (some ⟨r, 0, none⟩))] 44) hr
  clear q4 hr c1 Q3 va3 na3 vb3 nb3 vc3 nc3
  have c1 := cell_of vp4 (j := 0) rfl
  have c2 := cell_of vb4 (j := 0) rfl
  go_wp2_with fail
  refine (callCopy hTa hTb r ba bb tA tB Sa Sb (by omega) fa fb _ hr4 na4 nb4 (by omega) (by omega)).mono ?_
  rintro e w5 ⟨rfl, q5, nb5, hr5⟩
  have Q5 := (Q4.mono (S' := fun k => w0.heap.size ≤ k) (fun _ h => h.elim)).trans (q5.mono (by intro k hk; omega))
  have va5 := q5.keep (by omega) va4
  have vb5 := q5.keep (by omega) vb4
  have vc5 := q5.keep (by omega) vc4
  have vp5 := q5.keep (by omega) vp4
  have na5 := q5.keep (by omega) na4
  have nc5 := q5.keep (by omega) nc4
  clear c1 c2 q5 Q4 hr4 nb4 va4 vb4 vc4 vp4 na4 nc4
  have c1 := cell_of vp5 (j := 0) rfl
  have c2 := cell_of vc5 (j := 0) rfl
  go_wp2_with fail
  refine (callCopy hTb hTc r bb bc (ans tA) tC Sb Sc (by exact ans_le _ (by omega)) fb fc _ hr5 nb5 nc5 (by omega) (by omega)).mono ?_
  rintro e w6 ⟨rfl, q6, nc6, hr6⟩
  have Q6 := (Q5.mono (S' := fun k => w0.heap.size ≤ k) (fun _ h => h)).trans (q6.mono (by intro k hk; omega))
  have va6 := q6.keep (by omega) va5
  have vb6 := q6.keep (by omega) vb5
  have vc6 := q6.keep (by omega) vc5
  have vp6 := q6.keep (by omega) vp5
  have na6 := q6.keep (by omega) na5
  have nb6 := q6.keep (by omega) nb5
  clear c1 c2 q6 Q5 hr5 nc5 va5 vb5 vc5 vp5 na5 nb5
  rw [ans_ans] at nc6
  have c1 := cell_of vp6 (j := 0) rfl
  go_wp2_with fail
  refine (patchRoot Tc bc r _ hr6).mono ?_
  rintro e w7 ⟨rfl, q7⟩
  have Q7 := Q6.trans ((q7.alloc (.cells #[(.iface Tc (.pointer (some ⟨bc, 0, none⟩)))] 40)).mono (fun _ h => h.elim))
  have vr7 := h_new w7 (.cells #[(.iface Tc (.pointer (some ⟨bc, 0, none⟩)))] 40)
  have va7 := h_old (.cells #[(.iface Tc (.pointer (some ⟨bc, 0, none⟩)))] 40) (q7.keep id va6)
  have vb7 := h_old (.cells #[(.iface Tc (.pointer (some ⟨bc, 0, none⟩)))] 40) (q7.keep id vb6)
  have vc7 := h_old (.cells #[(.iface Tc (.pointer (some ⟨bc, 0, none⟩)))] 40) (q7.keep id vc6)
  have na7 := h_old (.cells #[(.iface Tc (.pointer (some ⟨bc, 0, none⟩)))] 40) (q7.keep id na6)
  have nb7 := h_old (.cells #[(.iface Tc (.pointer (some ⟨bc, 0, none⟩)))] 40) (q7.keep id nb6)
  have nc7 := h_old (.cells #[(.iface Tc (.pointer (some ⟨bc, 0, none⟩)))] 40) (q7.keep id nc6)
  clear c1 q7 Q6 hr6 vp6 va6 vb6 vc6 na6 nb6 nc6
  have c1 := cell_of vr7 (j := 0) rfl
  have c2 := cell_of vc7 (j := 0) rfl
  go_wp2_with fail
  refine (zzSame hTc bc _).mono ?_
  rintro e w8 ⟨rfl, q8⟩
  have Q8 := Q7.trans (q8.mono (fun _ h => h.elim))
  have va8 := q8.keep id va7
  have vb8 := q8.keep id vb7
  have vc8 := q8.keep id vc7
  have na8 := q8.keep id na7
  have nb8 := q8.keep id nb7
  have nc8 := q8.keep id nc7
  clear c1 c2 q8 Q7 vr7 va7 vb7 vc7 na7 nb7 nc7
  have c1 := cell_of vc8 (j := 0) rfl
  go_wp2_with fail
  have key := typeTag hTc bc (ans tA) Sc (by exact ans_le _ (by omega)) fc _ nc8
  rw [tag_ans tA htA] at key
  refine key.mono ?_
  clear key
  rintro e w9 ⟨rfl, q9⟩
  have Q9 := Q8.trans (q9.mono (fun _ h => h.elim))
  have va9 := q9.keep id va8
  have vb9 := q9.keep id vb8
  have na9 := q9.keep id na8
  have nb9 := q9.keep id nb8
  have c1 := cell_of vb9 (j := 0) rfl
  go_wp2_with fail
  have key := typeTag hTb bb (ans tA) Sb (by exact ans_le _ (by omega)) fb _ nb9
  rw [tag_ans tA htA] at key
  refine key.mono ?_
  clear key
  rintro e w10 ⟨rfl, q10⟩
  have Q10 := Q9.trans (q10.mono (fun _ h => h.elim))
  have va10 := q10.keep id va9
  have na10 := q10.keep id na9
  have c1 := cell_of va10 (j := 0) rfl
  go_wp2_with fail
  have key := typeTag hTa ba tA Sa (by omega) fa _ na10
  rw [tag_id tA htA] at key
  refine key.mono ?_
  clear key
  rintro e w11 ⟨rfl, q11⟩
  have Q11 := Q10.trans (q11.mono (fun _ h => h.elim))
  go_wp2
  go_ret
  exact ⟨rfl, Q11.below (Nat.le_refl _) (fun _ h => h)⟩
theorem law7 (kA tA kB tB kC tC iv : Int) (s : ByteArray) (w : World) :
    Calls Tryr.prog 3 #[.int .i64 kA, .int .i64 tA, .int .i64 kB, .int .i64 tB, .int .i64 kC, .int .i64 tC, .int .i64 iv, .string s] w fun e w' => e = .returned (.bool true) ∧ Below w.heap.size w w' := by
  by_cases hs : s.size ≤ 4096
  · have hb1 : (!decide ((1048576 : Int) < s.size)) = true := by simp; omega
    have hs1 : ¬ ((4096 : Int) < s.size) := by omega
    by_cases g0 : kA < 0
    · skip
      go_enter Tryr.func3, Tryr.ntmps3
      go_wp2_with fail
      refine (bytes7 _ _ _ _ _ _ _ s _).mono ?_
      rintro e w0 ⟨rfl, rfl⟩
      rw [hb1]
      go_wp2
      go_ret
      exact ⟨rfl, Below.refl _ _⟩
    by_cases g1 : 8 < kA
    · skip
      go_enter Tryr.func3, Tryr.ntmps3
      go_wp2_with fail
      refine (bytes7 _ _ _ _ _ _ _ s _).mono ?_
      rintro e w0 ⟨rfl, rfl⟩
      rw [hb1]
      go_wp2
      go_ret
      exact ⟨rfl, Below.refl _ _⟩
    by_cases g2 : kB < 0
    · skip
      go_enter Tryr.func3, Tryr.ntmps3
      go_wp2_with fail
      refine (bytes7 _ _ _ _ _ _ _ s _).mono ?_
      rintro e w0 ⟨rfl, rfl⟩
      rw [hb1]
      go_wp2
      go_ret
      exact ⟨rfl, Below.refl _ _⟩
    by_cases g3 : 8 < kB
    · skip
      go_enter Tryr.func3, Tryr.ntmps3
      go_wp2_with fail
      refine (bytes7 _ _ _ _ _ _ _ s _).mono ?_
      rintro e w0 ⟨rfl, rfl⟩
      rw [hb1]
      go_wp2
      go_ret
      exact ⟨rfl, Below.refl _ _⟩
    by_cases g4 : kC < 0
    · skip
      go_enter Tryr.func3, Tryr.ntmps3
      go_wp2_with fail
      refine (bytes7 _ _ _ _ _ _ _ s _).mono ?_
      rintro e w0 ⟨rfl, rfl⟩
      rw [hb1]
      go_wp2
      go_ret
      exact ⟨rfl, Below.refl _ _⟩
    by_cases g5 : 8 < kC
    · skip
      go_enter Tryr.func3, Tryr.ntmps3
      go_wp2_with fail
      refine (bytes7 _ _ _ _ _ _ _ s _).mono ?_
      rintro e w0 ⟨rfl, rfl⟩
      rw [hb1]
      go_wp2
      go_ret
      exact ⟨rfl, Below.refl _ _⟩
    by_cases g6 : tA < 0
    · skip
      go_enter Tryr.func3, Tryr.ntmps3
      go_wp2_with fail
      refine (bytes7 _ _ _ _ _ _ _ s _).mono ?_
      rintro e w0 ⟨rfl, rfl⟩
      rw [hb1]
      go_wp2
      go_ret
      exact ⟨rfl, Below.refl _ _⟩
    by_cases g7 : 4 < tA
    · skip
      go_enter Tryr.func3, Tryr.ntmps3
      go_wp2_with fail
      refine (bytes7 _ _ _ _ _ _ _ s _).mono ?_
      rintro e w0 ⟨rfl, rfl⟩
      rw [hb1]
      go_wp2
      go_ret
      exact ⟨rfl, Below.refl _ _⟩
    by_cases g8 : tB < 0
    · skip
      go_enter Tryr.func3, Tryr.ntmps3
      go_wp2_with fail
      refine (bytes7 _ _ _ _ _ _ _ s _).mono ?_
      rintro e w0 ⟨rfl, rfl⟩
      rw [hb1]
      go_wp2
      go_ret
      exact ⟨rfl, Below.refl _ _⟩
    by_cases g9 : 4 < tB
    · skip
      go_enter Tryr.func3, Tryr.ntmps3
      go_wp2_with fail
      refine (bytes7 _ _ _ _ _ _ _ s _).mono ?_
      rintro e w0 ⟨rfl, rfl⟩
      rw [hb1]
      go_wp2
      go_ret
      exact ⟨rfl, Below.refl _ _⟩
    by_cases g10 : tC < 0
    · skip
      go_enter Tryr.func3, Tryr.ntmps3
      go_wp2_with fail
      refine (bytes7 _ _ _ _ _ _ _ s _).mono ?_
      rintro e w0 ⟨rfl, rfl⟩
      rw [hb1]
      go_wp2
      go_ret
      exact ⟨rfl, Below.refl _ _⟩
    by_cases g11 : 4 < tC
    · skip
      go_enter Tryr.func3, Tryr.ntmps3
      go_wp2_with fail
      refine (bytes7 _ _ _ _ _ _ _ s _).mono ?_
      rintro e w0 ⟨rfl, rfl⟩
      rw [hb1]
      go_wp2
      go_ret
      exact ⟨rfl, Below.refl _ _⟩
    have eA : tA = (tA.toNat : Int) := by omega
    have eB : tB = (tB.toNat : Int) := by omega
    have eC : tC = (tC.toNat : Int) := by omega
    rw [eA, eB, eC]
    exact law7_in kA kB kC iv tA.toNat tB.toNat tC.toNat s w hs (by omega) (by omega) (by omega) (by omega) (by omega) (by omega)
  · have hs1 : (4096 : Int) < s.size := by omega
    by_cases hs2 : (1048576 : Int) < s.size
    · have hb1 : (!decide ((1048576 : Int) < s.size)) = false := by simp; omega
      go_enter Tryr.func3, Tryr.ntmps3
      go_wp2_with fail
      refine (bytes7 _ _ _ _ _ _ _ s _).mono ?_
      rintro e w0 ⟨rfl, rfl⟩
      rw [hb1]
      go_wp2
      go_ret
      exact ⟨rfl, Below.refl _ _⟩
    · have hb1 : (!decide ((1048576 : Int) < s.size)) = true := by simp; omega
      go_enter Tryr.func3, Tryr.ntmps3
      go_wp2_with fail
      refine (bytes7 _ _ _ _ _ _ _ s _).mono ?_
      rintro e w0 ⟨rfl, rfl⟩
      rw [hb1]
      go_wp2
      go_ret
      exact ⟨rfl, Below.refl _ _⟩
end Go.Proofs.YthbgafiknfoinaaRefl.opt
