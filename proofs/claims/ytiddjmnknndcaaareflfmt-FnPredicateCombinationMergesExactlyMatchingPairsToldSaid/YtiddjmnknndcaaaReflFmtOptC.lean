/-
The node's own methods over this cut: Type, SetType, Location, SetLocation, and the patch that copies a type. No condition.
-/
import Derived.Test.YtiddjmnknndcaaaReflFmtOptB
namespace Go.Proofs.YtiddjmnknndcaaaReflFmt.opt
open Go Go.Proofs Go.RowKit
set_option maxRecDepth 100000
set_option maxHeartbeats 1000000
theorem cell_of {w : World} {b j t : Nat} {cs : Array Value} {v : Value} (h : w.heap[b]? = some (.cells cs t (0, 0))) (hj : cs[j]? = some v) : w.cell? ⟨b, j, none⟩ = some v := by
  simp [World.cell?, h, hj]
theorem frozen_of {w : World} {b j t : Nat} {cs : Array Value} (h : w.heap[b]? = some (.cells cs t (0, 0))) : w.frozen? ⟨b, j, none⟩ = false := by
  simp [World.frozen?, h]
theorem lt_of {w : World} {b : Nat} {o : Obj} (h : w.heap[b]? = some o) : b < w.heap.size := (Array.getElem?_eq_some_iff.1 h).1
theorem h_new (w : World) (o : Obj) : (w.alloc o).heap[w.heap.size]? = some o := by simp only [World.alloc, Array.getElem?_push_size]
theorem h_old {w : World} {b : Nat} {x : Obj} (o : Obj) (h : w.heap[b]? = some x) : (w.alloc o).heap[b]? = some x := by
  have hl := lt_of h
  simp only [World.alloc]
  rw [Array.getElem?_push_lt hl, ← h, Array.getElem?_eq_getElem hl]
theorem h_set {w : World} {b j t : Nat} {cs : Array Value} (v : Value) (h : w.heap[b]? = some (.cells cs t (0, 0))) : (w.setCell ⟨b, j, none⟩ v).heap[b]? = some (.cells (cs.setIfInBounds j v) t (0, 0)) := by
  simp [World.setCell, Array.getElem?_modify, h]
theorem h_set_ne {w : World} {b : Nat} {a : Addr} (v : Value) (h : b ≠ a.block) : (w.setCell a v).heap[b]? = w.heap[b]? := by
  simp only [World.setCell]
  rw [Array.getElem?_modify, if_neg (fun e => h e.symm)]
/-- all old objects are kept, but those that S names -/
structure But (S : Nat → Prop) (w w' : World) : Prop where
  os : w'.os = w.os
  tape : w'.tape = w.tape
  output : w'.output = w.output
  size : w.heap.size ≤ w'.heap.size
  block : ∀ k, ¬ S k → k < w.heap.size → w'.heap[k]? = w.heap[k]?
theorem But.refl (S : Nat → Prop) (w : World) : But S w w := ⟨rfl, rfl, rfl, Nat.le_refl _, fun _ _ _ => rfl⟩
theorem But.trans {S : Nat → Prop} {a b c : World} (h : But S a b) (k : But S b c) : But S a c :=
  ⟨k.os.trans h.os, k.tape.trans h.tape, k.output.trans h.output, Nat.le_trans h.size k.size, fun i hi hl => (k.block i hi (Nat.lt_of_lt_of_le hl h.size)).trans (h.block i hi hl)⟩
theorem But.mono {S S' : Nat → Prop} {a b : World} (h : But S a b) (hS : ∀ k, S k → S' k) : But S' a b := ⟨h.os, h.tape, h.output, h.size, fun k hk hl => h.block k (fun s => hk (hS k s)) hl⟩
theorem But.alloc {S : Nat → Prop} {a w : World} (h : But S a w) (o : Obj) : But S a (w.alloc o) :=
  h.trans ⟨rfl, rfl, rfl, by simp, fun k _ hk => Below.heap_alloc _ _ _ hk⟩
theorem But.drew {S : Nat → Prop} {a w : World} (h : But S a w) : But S a w.drew := ⟨h.os, h.tape, h.output, h.size, h.block⟩
theorem But.setCell {S : Nat → Prop} {a w : World} (h : But S a w) {p : Addr} (hp : S p.block) (u : Value) : But S a (w.setCell p u) :=
  h.trans ⟨rfl, rfl, rfl, by simp [World.setCell], fun k hk _ => Below.heap_setCell _ _ _ _ (fun e => hk (by rw [e]; exact hp))⟩
theorem But.setRow {S : Nat → Prop} {a w : World} (h : But S a w) {b : Nat} (hp : S b) (cs : Array Value) : But S a (w.setRow b cs) :=
  h.trans ⟨rfl, rfl, rfl, by simp, fun k hk _ => setRow_other _ _ _ _ (fun e => hk (by rw [e]; exact hp))⟩
theorem But.below {S : Nat → Prop} {a w : World} (h : But S a w) {B : Nat} (hB : B ≤ a.heap.size) (hS : ∀ k, S k → B ≤ k) : Below B a w :=
  ⟨h.os, h.tape, h.output, h.size, fun k hk => h.block k (fun s => absurd (hS k s) (by omega)) (by omega)⟩
theorem But.ofBelow {a w : World} (h : Below a.heap.size a w) (S : Nat → Prop) : But S a w := ⟨h.os, h.tape, h.output, h.size, fun k _ hk => h.block k hk⟩
/-- an object that the step does not name is kept -/
theorem But.keep {S : Nat → Prop} {a w : World} (h : But S a w) {k : Nat} {x : Obj} (hS : ¬ S k) (hx : a.heap[k]? = some x) : w.heap[k]? = some x := (h.block k hS (lt_of hx)).trans hx
/-- a node's cells: its place, its nature, its own fields -/
noncomputable def nodeC (u : Nat) (fs : Array Value) : Array Value := #[.int .i64 0, .int .i64 0] ++ natC u ++ fs
theorem nodeC_list (u : Nat) (fs : Array Value) : (nodeC u fs).toList = [.int .i64 0, .int .i64 0] ++ ((natC u).toList ++ fs.toList) := by simp [nodeC]
theorem nodeC_size (u : Nat) (fs : Array Value) : (nodeC u fs).size = 11 + fs.size := by simp [nodeC, natC_size]; omega
theorem natC_len (u : Nat) : (natC u).toList.length = 9 := by simp [natC_size]
theorem run_setNat {w : World} {u u' b ST : Nat} {fs : Array Value} (h : w.heap[b]? = some (.cells (nodeC u fs) ST (0, 0))) :
    (storeCells ⟨b, 2, none⟩ (natC u').toList).run Tryr.prog w = .ok () (w.setRow b (nodeC u' fs)) := by
  have key := run_storeCells_at Tryr.prog b 2 ST (natC u').toList 0 (nodeC u fs) w h (by simp [nodeC_size, natC_size]) (natC_one u')
  have e : ((nodeC u fs).toList.take (2 + 0) ++ (natC u').toList ++ (nodeC u fs).toList.drop (2 + 0 + (natC u').toList.length)).toArray = nodeC u' fs := by
    rw [nodeC_list, natC_len]
    have d : ([Value.int .i64 0, .int .i64 0] ++ ((natC u).toList ++ fs.toList)).drop (2 + 0 + 9) = fs.toList := by
      show ((natC u).toList ++ fs.toList).drop 9 = _
      rw [List.drop_append_of_le_length (by rw [natC_len]; omega), ← natC_len u, List.drop_length, List.nil_append]
    rw [d]
    apply Array.ext'
    rw [nodeC_list]
    simp
  rw [e] at key
  exact key
theorem setCell_self {w : World} {b j ST : Nat} {cs : Array Value} {v : Value} (h : w.heap[b]? = some (.cells cs ST (0, 0))) (hv : cs[j]? = some v) : w.setCell ⟨b, j, none⟩ v = w := by
  rw [setCell_eq_setRow w b j cs ST (0, 0) v h]
  have e : cs.setIfInBounds j v = cs := by
    apply Array.ext
    · simp
    · intro i h1 h2
      obtain ⟨hj, hjv⟩ := Array.getElem?_eq_some_iff.1 hv
      rw [Array.getElem_setIfInBounds]
      split
      · rename_i e; subst e; exact hjv.symm
      · rfl
  rw [e, setRow_self _ _ _ _ _ h]
theorem nodeC_0 (u : Nat) (fs : Array Value) : (nodeC u fs)[0]? = some (.int .i64 0) := by rw [← Array.getElem?_toList, nodeC_list]; rfl
theorem nodeC_1 (u : Nat) (fs : Array Value) : (nodeC u fs)[1]? = some (.int .i64 0) := by rw [← Array.getElem?_toList, nodeC_list]; rfl
theorem nodeC_2 (u : Nat) (fs : Array Value) : (nodeC u fs)[2]? = (natC u)[0]? := by
  rw [← Array.getElem?_toList, nodeC_list, ← Array.getElem?_toList]
  show ((natC u).toList ++ fs.toList)[0]? = _
  rw [List.getElem?_append_left (by rw [natC_len]; omega)]
theorem nodeC_f (u j : Nat) (fs : Array Value) : (nodeC u fs)[11 + j]? = fs[j]? := by
  rw [← Array.getElem?_toList, nodeC_list, ← Array.getElem?_toList]
  rw [List.getElem?_append_right (by simp; omega)]
  rw [List.getElem?_append_right (by rw [natC_len]; simp; omega)]
  rw [natC_len]
  congr 1
  simp; omega
/-- the type that a node answers -/
def ans (u : Nat) : Nat := if u = 0 then 5 else u
/-- the node types of this cut (their pointer types) -/
def IsNode (T : Nat) : Prop := T = 57 ∨ T = 72 ∨ T = 79 ∨ T = 73
theorem mType {T : Nat} (hT : IsNode T) (b : Nat) (w : World) : (method (847) T (.pointer (some ⟨b, 0, none⟩)) "Type").run Tryr.prog w = .ok (87, .pointer (some ⟨b, 0, none⟩)) w := by
  rcases hT with rfl | rfl | rfl | rfl <;> kernel_rfl
theorem mSetType {T : Nat} (hT : IsNode T) (b : Nat) (w : World) : (method (847) T (.pointer (some ⟨b, 0, none⟩)) "SetType").run Tryr.prog w = .ok (22, .pointer (some ⟨b, 0, none⟩)) w := by
  rcases hT with rfl | rfl | rfl | rfl <;> kernel_rfl
theorem mLocation {T : Nat} (hT : IsNode T) (b : Nat) (w : World) : (method (847) T (.pointer (some ⟨b, 0, none⟩)) "Location").run Tryr.prog w = .ok (82, .pointer (some ⟨b, 0, none⟩)) w := by
  rcases hT with rfl | rfl | rfl | rfl <;> kernel_rfl
theorem mSetLocation {T : Nat} (hT : IsNode T) (b : Nat) (w : World) : (method (847) T (.pointer (some ⟨b, 0, none⟩)) "SetLocation").run Tryr.prog w = .ok (84, .pointer (some ⟨b, 0, none⟩)) w := by
  rcases hT with rfl | rfl | rfl | rfl <;> kernel_rfl
theorem nSetLocation {T : Nat} (hT : IsNode T) (b : Nat) (w : World) : (nilAhead (847) T (.pointer (some ⟨b, 0, none⟩)) "SetLocation").run Tryr.prog w = .ok (some false) w := by
  rcases hT with rfl | rfl | rfl | rfl <;> kernel_rfl
theorem anyType (w : World) : Calls Tryr.prog 88 #[] w fun e w' => e = .returned (tyV 5) ∧ ∃ o, w' = w.alloc o := by
  have g := typeOf
  have g1 := elem_any
  go_enter Tryr.func88, Tryr.ntmps88
  go_wp2
  go_returns
  exact ⟨rfl, _, rfl⟩
theorem typeW (b u ST : Nat) (fs : Array Value) (w : World) (h : w.heap[b]? = some (.cells (nodeC u fs) ST (0, 0))) :
    Calls Tryr.prog 87 #[.pointer (some ⟨b, 0, none⟩)] w fun e w' => e = .returned (tyV (ans u)) ∧ (w' = w ∨ ∃ o, w' = w.alloc o) := by
  cases u with
  | zero =>
    have c2 : w.cell? ⟨b, 2, none⟩ = some .nilIface := cell_of h (by rw [nodeC_2]; rfl)
    go_enter Tryr.func87, Tryr.ntmps87
    go_wp2_with fail
    refine (anyType _).mono ?_
    rintro e w1 ⟨rfl, o, rfl⟩
    go_wp2
    go_returns
    exact ⟨rfl, .inr ⟨_, rfl⟩⟩
  | succ t =>
    have c2 : w.cell? ⟨b, 2, none⟩ = some (.iface 101 (.pointer (some ⟨3, tyN (t + 1), none⟩))) := cell_of h (by rw [nodeC_2]; rfl)
    go_enter Tryr.func87, Tryr.ntmps87
    go_wp2
    go_returns
    exact ⟨rfl, .inl rfl⟩
theorem setTypeW (b u u' ST : Nat) (h1 : 1 ≤ u') (h5 : u' ≤ 5) (fs : Array Value) (w : World) (h : w.heap[b]? = some (.cells (nodeC u fs) ST (0, 0))) :
    Calls Tryr.prog 22 #[.pointer (some ⟨b, 0, none⟩), tyV u'] w fun e w' => e = .returned (.tuple #[]) ∧ w' = ((w.alloc (.cells (natC u') 66)).alloc (.cells (natC u') 66)).setRow b (nodeC u' fs) := by
  have hz := natC_size u'
  have hs := run_setNat (u' := u') (h_old (.cells (natC u') 66) (h_old (.cells (natC u') 66) h))
  go_enter Tryr.func22, Tryr.ntmps22
  go_wp2_with fail
  refine (pkgFromT u' h1 h5 _).mono ?_
  rintro e w1 ⟨rfl, rfl⟩
  go_wp2
  go_returns
  exact ⟨rfl, rfl⟩
theorem locW (b u ST : Nat) (fs : Array Value) (w : World) (h : w.heap[b]? = some (.cells (nodeC u fs) ST (0, 0))) :
    Calls Tryr.prog 82 #[.pointer (some ⟨b, 0, none⟩)] w fun e w' => e = .returned (.agg #[.int .i64 0, .int .i64 0]) ∧ w' = w.alloc (.cells #[.int .i64 0, .int .i64 0] 59) := by
  have c0 := cell_of (h_old (.cells #[.int .i64 0, .int .i64 0] 59) h) (nodeC_0 u fs)
  have c1 := cell_of (h_old (.cells #[.int .i64 0, .int .i64 0] 59) h) (nodeC_1 u fs)
  go_enter Tryr.func82, Tryr.ntmps82
  go_wp2
  go_returns
  exact ⟨rfl, rfl⟩
theorem setLocW (b u ST : Nat) (fs : Array Value) (w : World) (h : w.heap[b]? = some (.cells (nodeC u fs) ST (0, 0))) :
    Calls Tryr.prog 84 #[.pointer (some ⟨b, 0, none⟩), .agg #[.int .i64 0, .int .i64 0]] w fun e w' => e = .returned (.tuple #[]) ∧ w' = w.alloc (.cells #[.int .i64 0, .int .i64 0] 59) := by
  have h' := h_old (.cells #[.int .i64 0, .int .i64 0] 59) h
  have s0 := setCell_self h' (nodeC_0 u fs)
  have s1 := setCell_self h' (nodeC_1 u fs)
  have c0 := cell_of h' (nodeC_0 u fs)
  have c1 := cell_of h' (nodeC_1 u fs)
  have z0 := frozen_of h' (j := 0)
  have z1 := frozen_of h' (j := 1)
  clear h'
  go_enter Tryr.func84, Tryr.ntmps84
  go_wp2
  go_returns
  exact ⟨rfl, rfl⟩
end Go.Proofs.YtiddjmnknndcaaaReflFmt.opt
