/-
The cache's method set of the types 'any' and 'error' over this cut, in each state that the cache's map can take: any has none, error has one method. No condition.
-/
import Derived.Test.YthlmcnlkmgeohaaReflFmtMapA
namespace Go.Proofs.YthlmcnlkmgeohaaReflFmt.nat
open Go Go.Proofs Go.RowKit
set_option maxRecDepth 100000
set_option maxHeartbeats 1000000
theorem cell_of {w : World} {b j t : Nat} {cs : Array Value} {v : Value} (h : w.heap[b]? = some (.cells cs t (0, 0))) (hj : cs[j]? = some v) : w.cell? ⟨b, j, none⟩ = some v := by
  simp [World.cell?, h, hj]
theorem frozen_of {w : World} {b j t : Nat} {cs : Array Value} (h : w.heap[b]? = some (.cells cs t (0, 0))) : w.frozen? ⟨b, j, none⟩ = false := by
  simp [World.frozen?, h]
theorem lt_of {w : World} {b : Nat} {o : Obj} (h : w.heap[b]? = some o) : b < w.heap.size := (Array.getElem?_eq_some_iff.1 h).1
theorem h_new (w : World) (o : Obj) : (w.alloc o).heap[w.heap.size]? = some o := by simp only [World.alloc, Array.getElem?_push_size]
theorem h_old {w : World} {b : Nat} {x : Obj} (o : Obj) (h : w.heap[b]? = some x) : (w.alloc o).heap[b]? = some x := by
  have hl := lt_of h
  simp only [World.alloc]
  rw [Array.getElem?_push_lt hl, ← h, Array.getElem?_eq_getElem hl]
theorem h_set {w : World} {b j t : Nat} {cs : Array Value} (v : Value) (h : w.heap[b]? = some (.cells cs t (0, 0))) : (w.setCell ⟨b, j, none⟩ v).heap[b]? = some (.cells (cs.setIfInBounds j v) t (0, 0)) := by
  simp [World.setCell, Array.getElem?_modify, h]
theorem h_set_ne {w : World} {b : Nat} {a : Addr} (v : Value) (h : b ≠ a.block) : (w.setCell a v).heap[b]? = w.heap[b]? := by
  simp only [World.setCell]
  rw [Array.getElem?_modify, if_neg (fun e => h e.symm)]
/-- what neither the cache's own cells nor its map are -/
def Fixed : Obj → Prop
  | .cells _ t _ => t ≠ 44
  | .map _ _ => False
  | _ => True
/-- the world turned: below B all is as it was, and all else but caches and maps too -/
structure Turned (B : Nat) (w w' : World) : Prop where
  below : Below B w w'
  keep : ∀ (b : Nat) (o : Obj), w.heap[b]? = some o → Fixed o → w'.heap[b]? = some o
theorem Turned.refl (B : Nat) (w : World) : Turned B w w := ⟨Below.refl _ _, fun _ _ h _ => h⟩
theorem Turned.trans {B : Nat} {a b c : World} (h : Turned B a b) (k : Turned B b c) : Turned B a c := ⟨h.below.trans k.below, fun b o hb hf => k.keep b o (h.keep b o hb hf) hf⟩
theorem Turned.alloc {B : Nat} {a w : World} (h : Turned B a w) (hB : B ≤ w.heap.size) (o : Obj) : Turned B a (w.alloc o) := ⟨h.below.alloc hB o, fun b x hb hf => h_old o (h.keep b x hb hf)⟩
theorem Turned.cache {B c : Nat} {a w : World} {cs : Array Value} (h : Turned B a w) (hB : B ≤ c) (hc : w.heap[c]? = some (.cells cs 44 (0, 0))) (j : Nat) (v : Value) : Turned B a (w.setCell ⟨c, j, none⟩ v) := by
  refine ⟨h.below.setCell hB v, fun b x hb hf => ?_⟩
  have h1 := h.keep b x hb hf
  by_cases e : b = c
  · subst e
    rw [hc] at h1
    cases h1
    exact absurd rfl hf
  · rw [h_set_ne v e]; exact h1
theorem Turned.put {B m : Nat} {a w : World} {es : Array MapEntry} {cl : Nat} (h : Turned B a w) (hB : B ≤ m) (hm : w.heap[m]? = some (.map es cl)) (o : Obj) : Turned B a { w with heap := w.heap.setIfInBounds m o } := by
  have hne : ∀ b, b ≠ m → (w.heap.setIfInBounds m o)[b]? = w.heap[b]? := fun b hb => by rw [Array.getElem?_setIfInBounds_ne (fun e => hb e.symm)]
  refine ⟨⟨h.below.os, h.below.tape, h.below.output, by simpa using h.below.size, fun k hk => ?_⟩, fun b x hb hf => ?_⟩
  · exact (hne k (by omega)).trans (h.below.block k hk)
  · have h1 := h.keep b x hb hf
    by_cases e : b = m
    · subst e
      rw [hm] at h1
      cases h1
      exact hf.elim
    · exact (hne b e).trans h1
theorem put_same {w : World} {m : Nat} {x : Obj} (o : Obj) (hm : w.heap[m]? = some x) : ({ w with heap := w.heap.setIfInBounds m o } : World).heap[m]? = some o := by
  simp only
  rw [Array.getElem?_setIfInBounds_self_of_lt (lt_of hm)]
theorem put_ne {w : World} {m b : Nat} (o : Obj) (h : b ≠ m) : ({ w with heap := w.heap.setIfInBounds m o } : World).heap[b]? = w.heap[b]? := by
  simp only
  rw [Array.getElem?_setIfInBounds_ne (fun e => h e.symm)]
end Go.Proofs.YthlmcnlkmgeohaaReflFmt.nat
