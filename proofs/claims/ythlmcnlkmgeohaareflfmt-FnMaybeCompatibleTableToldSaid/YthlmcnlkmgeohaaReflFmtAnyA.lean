/-
What a nature answers to each of the eight checks over this cut. No condition.
-/
import Derived.Test.YthlmcnlkmgeohaaReflFmtCmpA
namespace Go.Proofs.YthlmcnlkmgeohaaReflFmt.nat
open Go Go.Proofs Go.RowKit
set_option maxRecDepth 100000
set_option maxHeartbeats 1000000
def numB (n : Nt) : Bool := n.i || n.f
def durB (n : Nt) : Bool := n.ty == some 62
def timB (n : Nt) : Bool := n.ty == some 65
def arrB (n : Nt) : Bool := ((n.k : Int) == 23) || ((n.k : Int) == 17)
def kB (n : Nt) (k : Int) : Bool := ((n.k : Int) == k)
theorem CacheAt.heap {B c : Nat} {w w' : World} {s : MS} {v : Value} (h : CacheAt B w c s v) (k : ∀ (b : Nat) (o : Obj), w.heap[b]? = some o → w'.heap[b]? = some o) : CacheAt B w' c s v := by
  refine ⟨h.base, ?_, fun e => ?_⟩
  · rcases h.map with ⟨a, b⟩ | ⟨a, m, b, d, e, f⟩
    · exact .inl ⟨a, k _ _ b⟩
    · exact .inr ⟨a, m, b, d, k _ _ e, k _ _ f⟩
  · obtain ⟨b, e1, e2⟩ := h.set e
    exact ⟨b, e1, k _ _ e2⟩
/-- nothing but draws has happened -/
structure Quiet (w w' : World) : Prop where
  heap : w'.heap = w.heap
  os : w'.os = w.os
  tape : w'.tape = w.tape
  output : w'.output = w.output
theorem Quiet.refl (w : World) : Quiet w w := ⟨rfl, rfl, rfl, rfl⟩
theorem Quiet.trans {a b c : World} (h : Quiet a b) (k : Quiet b c) : Quiet a c := ⟨k.heap.trans h.heap, k.os.trans h.os, k.tape.trans h.tape, k.output.trans h.output⟩
theorem Quiet.drew (w : World) : Quiet w w.drew := ⟨rfl, rfl, rfl, rfl⟩
theorem Quiet.below {w w' : World} (h : Quiet w w') (B : Nat) : Below B w w' := ⟨h.os, h.tape, h.output, by rw [h.heap]; exact Nat.le_refl _, fun k _ => by rw [h.heap]⟩
theorem Quiet.turned {B : Nat} {a w w' : World} (t : Turned B a w) (h : Quiet w w') : Turned B a w' := ⟨t.below.trans (h.below B), fun b o hb hf => by rw [h.heap]; exact t.keep b o hb hf⟩
theorem Has.quiet {w w' : World} {b : Nat} {n : Nt} {td : Value} (h : Has w b n td) (q : Quiet w w') : Has w' b n td := by unfold Has; rw [q.heap]; exact h
theorem CacheAt.quiet {B c : Nat} {w w' : World} {s : MS} {v : Value} (h : CacheAt B w c s v) (q : Quiet w w') : CacheAt B w' c s v := ⟨h.base, by rw [q.heap]; exact h.map, by rw [q.heap]; exact h.set⟩
theorem cell_quiet {w w' : World} {a : Addr} {v : Value} (h : w.cell? a = some v) (q : Quiet w w') : w'.cell? a = some v := by
  unfold World.cell? at h ⊢; rw [q.heap]; exact h
theorem durT (w : World) : Calls Tryr.prog 49 #[] w fun e w' => e = .returned (.iface 76 (.pointer (some ⟨0, 62, none⟩))) ∧ w' = w := by
  have g := typeOf
  go_enter Tryr.func49, Tryr.ntmps49
  go_wp2
  go_ret
  exact ⟨rfl, rfl⟩
theorem timT (w : World) : Calls Tryr.prog 48 #[] w fun e w' => e = .returned (.iface 76 (.pointer (some ⟨0, 65, none⟩))) ∧ w' = w := by
  have g := typeOf
  go_enter Tryr.func48, Tryr.ntmps48
  go_wp2
  go_ret
  exact ⟨rfl, rfl⟩
theorem eqlNil (t : Nat) (w : World) : (binOp .eql 46 .nilIface (.iface 76 (.pointer (some ⟨0, t, none⟩)))).run Tryr.prog w = .ok (.bool false) w := by kernel_rfl
theorem chkDur {b : Nat} {w : World} {n : Nt} {td : Value} (h : Has w b n td) : Calls Tryr.prog 40 #[.pointer (some ⟨b, 0, none⟩)] w fun e w' => e = .returned (.bool (durB n)) ∧ Quiet w w' := by
  have g := eql
  have g0 := eqlNil
  obtain ⟨ty, k, nl, i, f⟩ := n
  cases ty with
  | none =>
    have c0 : w.cell? ⟨b, 0, none⟩ = some .nilIface := cell_of (j := 0) h rfl
    clear h
    go_enter Tryr.func40, Tryr.ntmps40
    go_wp2
    go_region_with (first | (go_at_call 49; refine (durT _).mono ?_; rintro e w1 ⟨rfl, rfl⟩))
    all_goals
      go_wp2
      go_ret
      exact ⟨rfl, Quiet.drew _⟩
  | some t =>
    have c0 : w.cell? ⟨b, 0, none⟩ = some (.iface 76 (.pointer (some ⟨0, t, none⟩))) := cell_of (j := 0) h rfl
    clear h
    go_enter Tryr.func40, Tryr.ntmps40
    go_wp2
    go_region_with (first | (go_at_call 49; refine (durT _).mono ?_; rintro e w1 ⟨rfl, rfl⟩))
    all_goals
      go_wp2
      go_ret
      exact ⟨rfl, Quiet.drew _⟩
theorem chkTim {b : Nat} {w : World} {n : Nt} {td : Value} (h : Has w b n td) : Calls Tryr.prog 39 #[.pointer (some ⟨b, 0, none⟩)] w fun e w' => e = .returned (.bool (timB n)) ∧ Quiet w w' := by
  have g := eql
  have g0 := eqlNil
  obtain ⟨ty, k, nl, i, f⟩ := n
  cases ty with
  | none =>
    have c0 : w.cell? ⟨b, 0, none⟩ = some .nilIface := cell_of (j := 0) h rfl
    clear h
    go_enter Tryr.func39, Tryr.ntmps39
    go_wp2
    go_region_with (first | (go_at_call 48; refine (timT _).mono ?_; rintro e w1 ⟨rfl, rfl⟩))
    all_goals
      go_wp2
      go_ret
      exact ⟨rfl, Quiet.drew _⟩
  | some t =>
    have c0 : w.cell? ⟨b, 0, none⟩ = some (.iface 76 (.pointer (some ⟨0, t, none⟩))) := cell_of (j := 0) h rfl
    clear h
    go_enter Tryr.func39, Tryr.ntmps39
    go_wp2
    go_region_with (first | (go_at_call 48; refine (timT _).mono ?_; rintro e w1 ⟨rfl, rfl⟩))
    all_goals
      go_wp2
      go_ret
      exact ⟨rfl, Quiet.drew _⟩
theorem chkArr {b : Nat} {w : World} {n : Nt} {td : Value} (h : Has w b n td) : Calls Tryr.prog 38 #[.pointer (some ⟨b, 0, none⟩)] w fun e w' => e = .returned (.bool (arrB n)) ∧ Quiet w w' := by
  obtain ⟨ty, k, nl, i, f⟩ := n
  have c1 : w.cell? ⟨b, 1, none⟩ = some (.int .u64 k) := cell_of (j := 1) h rfl
  clear h
  cases h1 : ((k : Int) == 23)
  · cases h2 : ((k : Int) == 17)
    · have e : arrB ⟨ty, k, nl, i, f⟩ = false := by simp only [arrB, h1, h2, Bool.or_self]
      rw [e]
      go_enter Tryr.func38, Tryr.ntmps38
      go_wp2
      go_ret
      exact ⟨rfl, Quiet.refl _⟩
    · have e : arrB ⟨ty, k, nl, i, f⟩ = true := by simp only [arrB, h1, h2, Bool.or_true]
      rw [e]
      go_enter Tryr.func38, Tryr.ntmps38
      go_wp2
      go_ret
      exact ⟨rfl, Quiet.refl _⟩
  · have e : arrB ⟨ty, k, nl, i, f⟩ = true := by simp only [arrB, h1, Bool.true_or]
    rw [e]
    go_enter Tryr.func38, Tryr.ntmps38
    go_wp2
    go_ret
    exact ⟨rfl, Quiet.refl _⟩
theorem chkNum {b : Nat} {w : World} {n : Nt} {td : Value} (h : Has w b n td) : Calls Tryr.prog 36 #[.pointer (some ⟨b, 0, none⟩)] w fun e w' => e = .returned (.bool (numB n)) ∧ Quiet w w' := by
  obtain ⟨ty, k, nl, i, f⟩ := n
  have c7 : w.cell? ⟨b, 7, none⟩ = some (.bool i) := cell_of (j := 7) h rfl
  have c8 : w.cell? ⟨b, 8, none⟩ = some (.bool f) := cell_of (j := 8) h rfl
  clear h
  go_enter Tryr.func36, Tryr.ntmps36
  cases i <;> cases f <;> (go_wp2; go_ret; exact ⟨rfl, Quiet.refl _⟩)
theorem chkBool {b : Nat} {w : World} {n : Nt} {td : Value} (h : Has w b n td) : Calls Tryr.prog 34 #[.pointer (some ⟨b, 0, none⟩)] w fun e w' => e = .returned (.bool (kB n 1)) ∧ Quiet w w' := by
  have c1 : w.cell? ⟨b, 1, none⟩ = some (.int .u64 n.k) := cell_of (j := 1) h rfl
  clear h
  go_enter Tryr.func34, Tryr.ntmps34
  go_wp2
  go_ret
  exact ⟨rfl, Quiet.refl _⟩
theorem chkStr {b : Nat} {w : World} {n : Nt} {td : Value} (h : Has w b n td) : Calls Tryr.prog 35 #[.pointer (some ⟨b, 0, none⟩)] w fun e w' => e = .returned (.bool (kB n 24)) ∧ Quiet w w' := by
  have c1 : w.cell? ⟨b, 1, none⟩ = some (.int .u64 n.k) := cell_of (j := 1) h rfl
  clear h
  go_enter Tryr.func35, Tryr.ntmps35
  go_wp2
  go_ret
  exact ⟨rfl, Quiet.refl _⟩
theorem chkMap {b : Nat} {w : World} {n : Nt} {td : Value} (h : Has w b n td) : Calls Tryr.prog 37 #[.pointer (some ⟨b, 0, none⟩)] w fun e w' => e = .returned (.bool (kB n 21)) ∧ Quiet w w' := by
  have c1 : w.cell? ⟨b, 1, none⟩ = some (.int .u64 n.k) := cell_of (j := 1) h rfl
  clear h
  go_enter Tryr.func37, Tryr.ntmps37
  go_wp2
  go_ret
  exact ⟨rfl, Quiet.refl _⟩
/-- which check (1 to 8) a nature passes -/
def satB (n : Nt) (z : Int) : Bool :=
  if z = 1 then kB n 1 else if z = 2 then kB n 24 else if z = 3 then n.i else if z = 4 then numB n else if z = 5 then kB n 21 else if z = 6 then arrB n else if z = 7 then timB n else durB n
end Go.Proofs.YthlmcnlkmgeohaaReflFmt.nat
