/-
ComparableTo over this cut, for any two natures whose parts are consistent and of which reflect's AssignableTo is told. No condition.
-/
import Derived.Test.YtmpppalkbgfpcaaReflCmpB
namespace Go.Proofs.YtmpppalkbgfpcaaRefl.nat
open Go Go.Proofs Go.RowKit
set_option maxRecDepth 100000
set_option maxHeartbeats 4000000
def numB (n : Nt) : Bool := n.i || n.f
def durB (n : Nt) : Bool := n.ty == some 60
def timB (n : Nt) : Bool := n.ty == some 63
def arrB (n : Nt) : Bool := ((n.k : Int) == 23) || ((n.k : Int) == 17)
def kindB (n n' : Nt) : Bool := ((n.k : Int) == n'.k) || ((n'.k : Int) == 20)
def asgB (n n' : Nt) : Bool := kindB n n' && (n.ty == n'.ty)
def earlyB (n n' : Nt) : Bool := unkB n || unkB n' || n.nl || n'.nl || (numB n && numB n') || (durB n && durB n') || (timB n && timB n') || (arrB n && arrB n')
def cmpB (n n' : Nt) : Bool := earlyB n n' || asgB n n'
/-- a nature is of one class at most -/
def oneB (n : Nt) : Bool := !(numB n && (durB n || timB n || arrB n)) && !(durB n && (timB n || arrB n)) && !(timB n && arrB n)
theorem CacheAt.heap {B c : Nat} {w w' : World} {s : MS} {v : Value} (h : CacheAt B w c s v) (k : ∀ (b : Nat) (o : Obj), w.heap[b]? = some o → w'.heap[b]? = some o) : CacheAt B w' c s v := by
  refine ⟨h.base, ?_, fun e => ?_⟩
  · rcases h.map with ⟨a, b⟩ | ⟨a, m, b, d, e, f⟩
    · exact .inl ⟨a, k _ _ b⟩
    · exact .inr ⟨a, m, b, d, k _ _ e, k _ _ f⟩
  · obtain ⟨b, e1, e2⟩ := h.set e
    exact ⟨b, e1, k _ _ e2⟩
theorem CacheAt.alloc {B c : Nat} {w : World} {s : MS} {v : Value} (o : Obj) (h : CacheAt B w c s v) : CacheAt B (w.alloc o) c s v := h.heap fun _ _ hb => h_old o hb
theorem Turned.drew {B : Nat} {a w : World} (h : Turned B a w) : Turned B a w.drew := ⟨h.below.drew, h.keep⟩
theorem Turned.size {B : Nat} {a w : World} (h : Turned B a w) : a.heap.size ≤ w.heap.size := h.below.size
theorem beq_some (a b : Nat) : ((some a == some b) : Bool) = (a == b) := rfl
theorem comparable {B c b : Nat} {w : World} {s : MS} {v td td' : Value} {n n' : Nt} (hc : CacheAt B w c s v) (h : Has w b n td) (ok : Fine n td) (ok' : Fine n' td') (hB : B ≤ w.heap.size) (one : oneB n = true)
    (hasg : ∀ t t', n.ty = some t → n'.ty = some t' → earlyB n n' = false → kindB n n' = true → ∀ w : World, (callFunc 192 #[.pointer (some ⟨0, t, none⟩), (.iface 73 (.pointer (some ⟨0, t', none⟩)))]).run Tryr.prog w = .ok (.value (.bool (t == t'))) w) :
    Calls Tryr.prog 6 #[.pointer (some ⟨b, 0, none⟩), .pointer (some ⟨c, 0, none⟩), (.agg #[tyV n'.ty, .int .u64 n'.k, td', .pointer none, .bool n'.nl, .bool false, .bool false, .bool n'.i, .bool n'.f])] w fun e w' => e = .returned (.bool (cmpB n n')) ∧ ∃ s' v', CacheAt B w' c s' v' ∧ Turned B w w' := by
  have hc0 := hc.alloc (.cells #[tyV n'.ty, .int .u64 n'.k, td', .pointer none, .bool n'.nl, .bool false, .bool false, .bool n'.i, .bool n'.f] 47)
  have h0 : Has (w.alloc (.cells #[tyV n'.ty, .int .u64 n'.k, td', .pointer none, .bool n'.nl, .bool false, .bool false, .bool n'.i, .bool n'.f] 47)) b n td := h_old _ h
  have h0' : Has (w.alloc (.cells #[tyV n'.ty, .int .u64 n'.k, td', .pointer none, .bool n'.nl, .bool false, .bool false, .bool n'.i, .bool n'.f] 47)) w.heap.size n' td' := h_new _ _
  have T0 := (Turned.refl B w).alloc hB (.cells #[tyV n'.ty, .int .u64 n'.k, td', .pointer none, .bool n'.nl, .bool false, .bool false, .bool n'.i, .bool n'.f] 47)
  have k1 := isUnknown hc0 h0 ok
  go_enter Tryr.func6, Tryr.ntmps6
  go_wp2_with fail
  refine k1.mono ?_
  rintro e w1 ⟨rfl, s1, v1, hc1, t1⟩
  have h1 := h0.kept t1
  have h1' := h0'.kept t1
  have T1 := T0.trans t1
  clear k1 hc0 h0 h0' T0 t1 hc h
  cases hu : unkB n
  rotate_left
  · go_wp2
    go_ret
    exact ⟨by simp [cmpB, earlyB, hu], s1, v1, hc1, T1⟩
  have k2 := isUnknown hc1 h1' ok'
  go_wp2_with fail
  refine k2.mono ?_
  rintro e w2 ⟨rfl, s2, v2, hc2, t2⟩
  have h2 := h1.kept t2
  have h2' := h1'.kept t2
  have T2 := T1.trans t2
  clear k2 hc1 h1 h1' T1 t2
  cases hu' : unkB n'
  rotate_left
  · go_wp2
    go_ret
    exact ⟨by simp [cmpB, earlyB, hu'], s2, v2, hc2, T2⟩
  obtain ⟨ty, k, nl, i, f⟩ := n
  obtain ⟨ty', k', nl', i', f'⟩ := n'
  have c4 : w2.cell? ⟨b, 4, none⟩ = some (.bool nl) := cell_of (j := 4) h2 rfl
  have d4 : w2.cell? ⟨w.heap.size, 4, none⟩ = some (.bool nl') := cell_of (j := 4) h2' rfl
  cases nl
  rotate_left
  · go_wp2
    go_ret
    exact ⟨by simp [cmpB, earlyB], s2, v2, hc2, T2⟩
  cases nl'
  rotate_left
  · go_wp2
    go_ret
    exact ⟨by simp [cmpB, earlyB], s2, v2, hc2, T2⟩
  cases ty with
  | none => exact absurd hu (by simp [unkB])
  | some t =>
  cases ty' with
  | none => exact absurd hu' (by simp [unkB])
  | some t' =>
  have c0 : w2.cell? ⟨b, 0, none⟩ = some (.iface 73 (.pointer (some ⟨0, t, none⟩))) := cell_of (j := 0) h2 rfl
  have c1 : w2.cell? ⟨b, 1, none⟩ = some (.int .u64 k) := cell_of (j := 1) h2 rfl
  have c7 : w2.cell? ⟨b, 7, none⟩ = some (.bool i) := cell_of (j := 7) h2 rfl
  have c8 : w2.cell? ⟨b, 8, none⟩ = some (.bool f) := cell_of (j := 8) h2 rfl
  have d0 : w2.cell? ⟨w.heap.size, 0, none⟩ = some ((.iface 73 (.pointer (some ⟨0, t', none⟩)))) := cell_of (j := 0) h2' rfl
  have d1 : w2.cell? ⟨w.heap.size, 1, none⟩ = some (.int .u64 k') := cell_of (j := 1) h2' rfl
  have d2 : w2.cell? ⟨w.heap.size, 2, none⟩ = some (td') := cell_of (j := 2) h2' rfl
  have d3 : w2.cell? ⟨w.heap.size, 3, none⟩ = some (.pointer none) := cell_of (j := 3) h2' rfl
  have d5 : w2.cell? ⟨w.heap.size, 5, none⟩ = some (.bool false) := cell_of (j := 5) h2' rfl
  have d6 : w2.cell? ⟨w.heap.size, 6, none⟩ = some (.bool false) := cell_of (j := 6) h2' rfl
  have d7 : w2.cell? ⟨w.heap.size, 7, none⟩ = some (.bool i') := cell_of (j := 7) h2' rfl
  have d8 : w2.cell? ⟨w.heap.size, 8, none⟩ = some (.bool f') := cell_of (j := 8) h2' rfl
  have hs2 : B ≤ w2.heap.size := Nat.le_trans hB T2.size
  clear h2 h2' ok ok'
  have ho := one
  simp only [oneB, numB, durB, timB, arrB, beq_some] at ho
  clear one
  cases hN : (i || f)
  rotate_left
  · skip
    have hD : (t == 60) = false := by
      cases hh : (t == 60)
      · rfl
      · rw [hN, hh] at ho; simp at ho
    have hT : (t == 63) = false := by
      cases hh : (t == 63)
      · rfl
      · rw [hN, hh] at ho; simp at ho
    have hA : (((k : Int) == 23) || ((k : Int) == 17)) = false := by
      cases hh : (((k : Int) == 23) || ((k : Int) == 17))
      · rfl
      · rw [hN, hh] at ho; simp at ho
    clear ho
    go_wp2_with fail
    refine (isNumber b i f _ (by exact c7) (by exact c8)).mono ?_
    rintro e w3 ⟨rfl, rfl⟩
    rw [hN]
    go_wp2_with fail
    refine (isNumber w.heap.size i' f' _ (by exact d7) (by exact d8)).mono ?_
    rintro e w3 ⟨rfl, rfl⟩
    cases hN' : (i' || f')
    rotate_left
    · have hcm : cmpB ⟨some t, k, false, i, f⟩ ⟨some t', k', false, i', f'⟩ = true := by
        simp only [cmpB, earlyB, numB, durB, timB, arrB, beq_some, hN, hN', Bool.and_self, Bool.true_or, Bool.or_true]
      clear hasg
      go_wp2
      go_ret
      exact ⟨by rw [hcm]; rfl, s2, v2, hc2, T2⟩
    go_wp2_with fail
    refine (isDuration b t _ (by exact c0)).mono ?_
    rintro e w3 ⟨rfl, rfl⟩
    rw [hD]
    go_wp2_with fail
    refine (isTime b t _ (by exact c0)).mono ?_
    rintro e w3 ⟨rfl, rfl⟩
    rw [hT]
    go_wp2_with fail
    refine (isArray b k _ (by exact c1)).mono ?_
    rintro e w3 ⟨rfl, rfl⟩
    rw [hA]
    have he : earlyB ⟨some t, k, false, i, f⟩ ⟨some t', k', false, i', f'⟩ = false := by
      simp only [earlyB, hu, hu', numB, durB, timB, arrB, beq_some, hN, hD, hT, hA, hN', Bool.false_and, Bool.and_false, Bool.or_self]
    have hcm : cmpB ⟨some t, k, false, i, f⟩ ⟨some t', k', false, i', f'⟩ = ((((k : Int) == k') || ((k' : Int) == 20)) && (t == t')) := by
      simp only [cmpB, he, asgB, kindB, beq_some, Bool.false_or]
    have hg := hasg t t' rfl rfl he
    clear hasg he
    cases hk : ((k : Int) == k')
    · cases hk' : ((k' : Int) == 20)
      · go_wp2_with fail
        refine (asg_kind b t k t' k' td' false i' f' _ (by exact c0) (by exact c1) (by exact c4) hk hk').mono ?_
        rintro e w3 ⟨rfl, rfl⟩
        clear hg
        go_wp2
        go_ret
        exact ⟨by rw [hcm, hk, hk']; rfl, s2, v2, (hc2.drew.drew.alloc _).drew, (T2.drew.drew.alloc hs2 _).drew⟩
      · have hr := hg (by simp [kindB, hk'])
        clear hg
        go_wp2_with fail
        refine (asg_iface b t k t' k' td' false i' f' (t == t') _ (by exact c0) (by exact c1) (by exact c4) hk hk' hr).mono ?_
        rintro e w3 ⟨rfl, rfl⟩
        clear hr
        go_wp2
        go_ret
        exact ⟨by rw [hcm, hk, hk']; simp, s2, v2, (hc2.drew.drew.alloc _).drew.drew, (T2.drew.drew.alloc hs2 _).drew.drew⟩
    · have hkk : k' = k := by rw [beq_iff_eq] at hk; omega
      subst hkk
      have hr := hg (by simp [kindB])
      clear hg
      go_wp2_with fail
      refine (asg_same b t k' t' td' false i' f' (t == t') _ (by exact c0) (by exact c1) (by exact c4) hr).mono ?_
      rintro e w3 ⟨rfl, rfl⟩
      clear hr
      go_wp2
      go_ret
      exact ⟨by rw [hcm]; simp, s2, v2, (hc2.drew.drew.alloc _).drew.drew, (T2.drew.drew.alloc hs2 _).drew.drew⟩
  cases hD : (t == 60)
  rotate_left
  · skip
    have hT : (t == 63) = false := by
      cases hh : (t == 63)
      · rfl
      · rw [hD, hh] at ho; simp at ho
    have hA : (((k : Int) == 23) || ((k : Int) == 17)) = false := by
      cases hh : (((k : Int) == 23) || ((k : Int) == 17))
      · rfl
      · rw [hD, hh] at ho; simp at ho
    clear ho
    go_wp2_with fail
    refine (isNumber b i f _ (by exact c7) (by exact c8)).mono ?_
    rintro e w3 ⟨rfl, rfl⟩
    rw [hN]
    go_wp2_with fail
    refine (isDuration b t _ (by exact c0)).mono ?_
    rintro e w3 ⟨rfl, rfl⟩
    rw [hD]
    go_wp2_with fail
    refine (isDuration w.heap.size t' _ (by exact d0)).mono ?_
    rintro e w3 ⟨rfl, rfl⟩
    cases hD' : (t' == 60)
    rotate_left
    · have hcm : cmpB ⟨some t, k, false, i, f⟩ ⟨some t', k', false, i', f'⟩ = true := by
        simp only [cmpB, earlyB, numB, durB, timB, arrB, beq_some, hD, hD', Bool.and_self, Bool.true_or, Bool.or_true]
      clear hasg
      go_wp2
      go_ret
      exact ⟨by rw [hcm]; rfl, s2, v2, hc2.drew.drew, T2.drew.drew⟩
    go_wp2_with fail
    refine (isTime b t _ (by exact c0)).mono ?_
    rintro e w3 ⟨rfl, rfl⟩
    rw [hT]
    go_wp2_with fail
    refine (isArray b k _ (by exact c1)).mono ?_
    rintro e w3 ⟨rfl, rfl⟩
    rw [hA]
    have he : earlyB ⟨some t, k, false, i, f⟩ ⟨some t', k', false, i', f'⟩ = false := by
      simp only [earlyB, hu, hu', numB, durB, timB, arrB, beq_some, hN, hD, hT, hA, hD', Bool.false_and, Bool.and_false, Bool.or_self]
    have hcm : cmpB ⟨some t, k, false, i, f⟩ ⟨some t', k', false, i', f'⟩ = ((((k : Int) == k') || ((k' : Int) == 20)) && (t == t')) := by
      simp only [cmpB, he, asgB, kindB, beq_some, Bool.false_or]
    have hg := hasg t t' rfl rfl he
    clear hasg he
    cases hk : ((k : Int) == k')
    · cases hk' : ((k' : Int) == 20)
      · go_wp2_with fail
        refine (asg_kind b t k t' k' td' false i' f' _ (by exact c0) (by exact c1) (by exact c4) hk hk').mono ?_
        rintro e w3 ⟨rfl, rfl⟩
        clear hg
        go_wp2
        go_ret
        exact ⟨by rw [hcm, hk, hk']; rfl, s2, v2, (hc2.drew.drew.drew.alloc _).drew, (T2.drew.drew.drew.alloc hs2 _).drew⟩
      · have hr := hg (by simp [kindB, hk'])
        clear hg
        go_wp2_with fail
        refine (asg_iface b t k t' k' td' false i' f' (t == t') _ (by exact c0) (by exact c1) (by exact c4) hk hk' hr).mono ?_
        rintro e w3 ⟨rfl, rfl⟩
        clear hr
        go_wp2
        go_ret
        exact ⟨by rw [hcm, hk, hk']; simp, s2, v2, (hc2.drew.drew.drew.alloc _).drew.drew, (T2.drew.drew.drew.alloc hs2 _).drew.drew⟩
    · have hkk : k' = k := by rw [beq_iff_eq] at hk; omega
      subst hkk
      have hr := hg (by simp [kindB])
      clear hg
      go_wp2_with fail
      refine (asg_same b t k' t' td' false i' f' (t == t') _ (by exact c0) (by exact c1) (by exact c4) hr).mono ?_
      rintro e w3 ⟨rfl, rfl⟩
      clear hr
      go_wp2
      go_ret
      exact ⟨by rw [hcm]; simp, s2, v2, (hc2.drew.drew.drew.alloc _).drew.drew, (T2.drew.drew.drew.alloc hs2 _).drew.drew⟩
  cases hT : (t == 63)
  rotate_left
  · skip
    have hA : (((k : Int) == 23) || ((k : Int) == 17)) = false := by
      cases hh : (((k : Int) == 23) || ((k : Int) == 17))
      · rfl
      · rw [hT, hh] at ho; simp at ho
    clear ho
    go_wp2_with fail
    refine (isNumber b i f _ (by exact c7) (by exact c8)).mono ?_
    rintro e w3 ⟨rfl, rfl⟩
    rw [hN]
    go_wp2_with fail
    refine (isDuration b t _ (by exact c0)).mono ?_
    rintro e w3 ⟨rfl, rfl⟩
    rw [hD]
    go_wp2_with fail
    refine (isTime b t _ (by exact c0)).mono ?_
    rintro e w3 ⟨rfl, rfl⟩
    rw [hT]
    go_wp2_with fail
    refine (isTime w.heap.size t' _ (by exact d0)).mono ?_
    rintro e w3 ⟨rfl, rfl⟩
    cases hT' : (t' == 63)
    rotate_left
    · have hcm : cmpB ⟨some t, k, false, i, f⟩ ⟨some t', k', false, i', f'⟩ = true := by
        simp only [cmpB, earlyB, numB, durB, timB, arrB, beq_some, hT, hT', Bool.and_self, Bool.true_or, Bool.or_true]
      clear hasg
      go_wp2
      go_ret
      exact ⟨by rw [hcm]; rfl, s2, v2, hc2.drew.drew.drew, T2.drew.drew.drew⟩
    go_wp2_with fail
    refine (isArray b k _ (by exact c1)).mono ?_
    rintro e w3 ⟨rfl, rfl⟩
    rw [hA]
    have he : earlyB ⟨some t, k, false, i, f⟩ ⟨some t', k', false, i', f'⟩ = false := by
      simp only [earlyB, hu, hu', numB, durB, timB, arrB, beq_some, hN, hD, hT, hA, hT', Bool.false_and, Bool.and_false, Bool.or_self]
    have hcm : cmpB ⟨some t, k, false, i, f⟩ ⟨some t', k', false, i', f'⟩ = ((((k : Int) == k') || ((k' : Int) == 20)) && (t == t')) := by
      simp only [cmpB, he, asgB, kindB, beq_some, Bool.false_or]
    have hg := hasg t t' rfl rfl he
    clear hasg he
    cases hk : ((k : Int) == k')
    · cases hk' : ((k' : Int) == 20)
      · go_wp2_with fail
        refine (asg_kind b t k t' k' td' false i' f' _ (by exact c0) (by exact c1) (by exact c4) hk hk').mono ?_
        rintro e w3 ⟨rfl, rfl⟩
        clear hg
        go_wp2
        go_ret
        exact ⟨by rw [hcm, hk, hk']; rfl, s2, v2, (hc2.drew.drew.drew.alloc _).drew, (T2.drew.drew.drew.alloc hs2 _).drew⟩
      · have hr := hg (by simp [kindB, hk'])
        clear hg
        go_wp2_with fail
        refine (asg_iface b t k t' k' td' false i' f' (t == t') _ (by exact c0) (by exact c1) (by exact c4) hk hk' hr).mono ?_
        rintro e w3 ⟨rfl, rfl⟩
        clear hr
        go_wp2
        go_ret
        exact ⟨by rw [hcm, hk, hk']; simp, s2, v2, (hc2.drew.drew.drew.alloc _).drew.drew, (T2.drew.drew.drew.alloc hs2 _).drew.drew⟩
    · have hkk : k' = k := by rw [beq_iff_eq] at hk; omega
      subst hkk
      have hr := hg (by simp [kindB])
      clear hg
      go_wp2_with fail
      refine (asg_same b t k' t' td' false i' f' (t == t') _ (by exact c0) (by exact c1) (by exact c4) hr).mono ?_
      rintro e w3 ⟨rfl, rfl⟩
      clear hr
      go_wp2
      go_ret
      exact ⟨by rw [hcm]; simp, s2, v2, (hc2.drew.drew.drew.alloc _).drew.drew, (T2.drew.drew.drew.alloc hs2 _).drew.drew⟩
  cases hA : (((k : Int) == 23) || ((k : Int) == 17))
  rotate_left
  · skip
    clear ho
    go_wp2_with fail
    refine (isNumber b i f _ (by exact c7) (by exact c8)).mono ?_
    rintro e w3 ⟨rfl, rfl⟩
    rw [hN]
    go_wp2_with fail
    refine (isDuration b t _ (by exact c0)).mono ?_
    rintro e w3 ⟨rfl, rfl⟩
    rw [hD]
    go_wp2_with fail
    refine (isTime b t _ (by exact c0)).mono ?_
    rintro e w3 ⟨rfl, rfl⟩
    rw [hT]
    go_wp2_with fail
    refine (isArray b k _ (by exact c1)).mono ?_
    rintro e w3 ⟨rfl, rfl⟩
    rw [hA]
    go_wp2_with fail
    refine (isArray w.heap.size k' _ (by exact d1)).mono ?_
    rintro e w3 ⟨rfl, rfl⟩
    cases hA' : (((k' : Int) == 23) || ((k' : Int) == 17))
    rotate_left
    · have hcm : cmpB ⟨some t, k, false, i, f⟩ ⟨some t', k', false, i', f'⟩ = true := by
        simp only [cmpB, earlyB, numB, durB, timB, arrB, beq_some, hA, hA', Bool.and_self, Bool.true_or, Bool.or_true]
      clear hasg
      go_wp2
      go_ret
      exact ⟨by rw [hcm]; rfl, s2, v2, hc2.drew.drew, T2.drew.drew⟩
    have he : earlyB ⟨some t, k, false, i, f⟩ ⟨some t', k', false, i', f'⟩ = false := by
      simp only [earlyB, hu, hu', numB, durB, timB, arrB, beq_some, hN, hD, hT, hA, hA', Bool.false_and, Bool.and_false, Bool.or_self]
    have hcm : cmpB ⟨some t, k, false, i, f⟩ ⟨some t', k', false, i', f'⟩ = ((((k : Int) == k') || ((k' : Int) == 20)) && (t == t')) := by
      simp only [cmpB, he, asgB, kindB, beq_some, Bool.false_or]
    have hg := hasg t t' rfl rfl he
    clear hasg he
    cases hk : ((k : Int) == k')
    · cases hk' : ((k' : Int) == 20)
      · go_wp2_with fail
        refine (asg_kind b t k t' k' td' false i' f' _ (by exact c0) (by exact c1) (by exact c4) hk hk').mono ?_
        rintro e w3 ⟨rfl, rfl⟩
        clear hg
        go_wp2
        go_ret
        exact ⟨by rw [hcm, hk, hk']; rfl, s2, v2, (hc2.drew.drew.alloc _).drew, (T2.drew.drew.alloc hs2 _).drew⟩
      · have hr := hg (by simp [kindB, hk'])
        clear hg
        go_wp2_with fail
        refine (asg_iface b t k t' k' td' false i' f' (t == t') _ (by exact c0) (by exact c1) (by exact c4) hk hk' hr).mono ?_
        rintro e w3 ⟨rfl, rfl⟩
        clear hr
        go_wp2
        go_ret
        exact ⟨by rw [hcm, hk, hk']; simp, s2, v2, (hc2.drew.drew.alloc _).drew.drew, (T2.drew.drew.alloc hs2 _).drew.drew⟩
    · have hkk : k' = k := by rw [beq_iff_eq] at hk; omega
      subst hkk
      have hr := hg (by simp [kindB])
      clear hg
      go_wp2_with fail
      refine (asg_same b t k' t' td' false i' f' (t == t') _ (by exact c0) (by exact c1) (by exact c4) hr).mono ?_
      rintro e w3 ⟨rfl, rfl⟩
      clear hr
      go_wp2
      go_ret
      exact ⟨by rw [hcm]; simp, s2, v2, (hc2.drew.drew.alloc _).drew.drew, (T2.drew.drew.alloc hs2 _).drew.drew⟩
  · skip
    clear ho
    go_wp2_with fail
    refine (isNumber b i f _ (by exact c7) (by exact c8)).mono ?_
    rintro e w3 ⟨rfl, rfl⟩
    rw [hN]
    go_wp2_with fail
    refine (isDuration b t _ (by exact c0)).mono ?_
    rintro e w3 ⟨rfl, rfl⟩
    rw [hD]
    go_wp2_with fail
    refine (isTime b t _ (by exact c0)).mono ?_
    rintro e w3 ⟨rfl, rfl⟩
    rw [hT]
    go_wp2_with fail
    refine (isArray b k _ (by exact c1)).mono ?_
    rintro e w3 ⟨rfl, rfl⟩
    rw [hA]
    have he : earlyB ⟨some t, k, false, i, f⟩ ⟨some t', k', false, i', f'⟩ = false := by
      simp only [earlyB, hu, hu', numB, durB, timB, arrB, beq_some, hN, hD, hT, hA, Bool.false_and, Bool.or_self]
    have hcm : cmpB ⟨some t, k, false, i, f⟩ ⟨some t', k', false, i', f'⟩ = ((((k : Int) == k') || ((k' : Int) == 20)) && (t == t')) := by
      simp only [cmpB, he, asgB, kindB, beq_some, Bool.false_or]
    have hg := hasg t t' rfl rfl he
    clear hasg he
    cases hk : ((k : Int) == k')
    · cases hk' : ((k' : Int) == 20)
      · go_wp2_with fail
        refine (asg_kind b t k t' k' td' false i' f' _ (by exact c0) (by exact c1) (by exact c4) hk hk').mono ?_
        rintro e w3 ⟨rfl, rfl⟩
        clear hg
        go_wp2
        go_ret
        exact ⟨by rw [hcm, hk, hk']; rfl, s2, v2, (hc2.drew.drew.alloc _).drew, (T2.drew.drew.alloc hs2 _).drew⟩
      · have hr := hg (by simp [kindB, hk'])
        clear hg
        go_wp2_with fail
        refine (asg_iface b t k t' k' td' false i' f' (t == t') _ (by exact c0) (by exact c1) (by exact c4) hk hk' hr).mono ?_
        rintro e w3 ⟨rfl, rfl⟩
        clear hr
        go_wp2
        go_ret
        exact ⟨by rw [hcm, hk, hk']; simp, s2, v2, (hc2.drew.drew.alloc _).drew.drew, (T2.drew.drew.alloc hs2 _).drew.drew⟩
    · have hkk : k' = k := by rw [beq_iff_eq] at hk; omega
      subst hkk
      have hr := hg (by simp [kindB])
      clear hg
      go_wp2_with fail
      refine (asg_same b t k' t' td' false i' f' (t == t') _ (by exact c0) (by exact c1) (by exact c4) hr).mono ?_
      rintro e w3 ⟨rfl, rfl⟩
      clear hr
      go_wp2
      go_ret
      exact ⟨by rw [hcm]; simp, s2, v2, (hc2.drew.drew.alloc _).drew.drew, (T2.drew.drew.alloc hs2 _).drew.drew⟩
end Go.Proofs.YtmpppalkbgfpcaaRefl.nat
