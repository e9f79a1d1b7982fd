/-
The cache's map of method sets over this cut: what a look-up and a store of the types 'any' and 'error' do, in each state that the map can take. No condition.
-/
import Derived.Test.YthlmcnlkmgeohaaReflFmtNatA
import Derived.MapKept
namespace Go.Proofs.YthlmcnlkmgeohaaReflFmt.nat
open Go Go.Proofs Go.RowKit
set_option maxRecDepth 100000
set_option maxHeartbeats 1000000
noncomputable abbrev KA : Value := .iface 76 (.pointer (some ⟨0, 20, none⟩))
noncomputable abbrev KE : Value := .iface 76 (.pointer (some ⟨0, 25, none⟩))
noncomputable abbrev eA (n : Nat) : MapEntry := ⟨KA, .pointer none, n⟩
noncomputable abbrev eE (v : Value) (n : Nat) : MapEntry := ⟨KE, v, n⟩
theorem chkA (b : Bool) (w : World) : (Instr.checkKey b 10000 46 KA).run Tryr.prog w = .ok () w := by kernel_rfl
theorem chkE (b : Bool) (w : World) : (Instr.checkKey b 10000 46 KE).run Tryr.prog w = .ok () w := by kernel_rfl
theorem findA_0 (w : World) : (Instr.findKey 46 KA []).run Tryr.prog w = .ok none w := by kernel_rfl
theorem findE_0 (w : World) : (Instr.findKey 46 KE []).run Tryr.prog w = .ok none w := by kernel_rfl
theorem findA_A (n : Nat) (r : List MapEntry) (w : World) : (Instr.findKey 46 KA (eA n :: r)).run Tryr.prog w = .ok (some (0, .pointer none)) w := by kernel_rfl
theorem findA_E (v : Value) (n : Nat) (w : World) : (Instr.findKey 46 KA [eE v n]).run Tryr.prog w = .ok none w := by kernel_rfl
theorem findA_EA (v : Value) (n k : Nat) (w : World) : (Instr.findKey 46 KA [eE v n, eA k]).run Tryr.prog w = .ok (some (1, .pointer none)) w := by kernel_rfl
theorem findE_E (v : Value) (n : Nat) (r : List MapEntry) (w : World) : (Instr.findKey 46 KE (eE v n :: r)).run Tryr.prog w = .ok (some (0, v)) w := by kernel_rfl
theorem findE_A (n : Nat) (w : World) : (Instr.findKey 46 KE [eA n]).run Tryr.prog w = .ok none w := by kernel_rfl
theorem findE_AE (v : Value) (n k : Nat) (w : World) : (Instr.findKey 46 KE [eA n, eE v k]).run Tryr.prog w = .ok (some (1, v)) w := by kernel_rfl
theorem zeroM (w : World) : (zeroValue 80).run Tryr.prog w = .ok (.pointer none) w := by kernel_rfl
theorem stayA (w : World) : (Instr.keyThatStays KA KA).run Tryr.prog w = .ok KA w := by kernel_rfl
theorem stayE (w : World) : (Instr.keyThatStays KE KE).run Tryr.prog w = .ok KE w := by kernel_rfl
def K44 (K : Value) : Prop := ∀ (b : Bool) (w : World), (Instr.checkKey b 10000 46 K).run Tryr.prog w = .ok () w
theorem look {K : Value} {m : Nat} {es : Array MapEntry} {cl : Nat} {w : World} (hm : w.heap[m]? = some (.map es cl)) (hc : K44 K) (r : Option (Nat × Value)) (hf : ∀ w, (Instr.findKey 46 K es.toList).run Tryr.prog w = .ok r w) :
    (Instr.lookup 41 (.map (some m)) K true).run Tryr.prog w = .ok (.tuple #[(r.map (·.2)).getD (.pointer none), .bool r.isSome]) w := by
  unfold Instr.lookup
  simp only [Sem.run_bind, run_underlying Tryr.underlying41, Result.andThen_ok, Go.MapKept.run_getObj_map hm, Sem.run_pure, hc es.isEmpty, hf]
  cases r with
  | none => simp
  | some x => simp
theorem upd_new {K : Value} {m : Nat} {es : Array MapEntry} {cl : Nat} {w : World} (v : Value) (hm : w.heap[m]? = some (.map es cl)) (hc : K44 K) (hf : ∀ w, (Instr.findKey 46 K es.toList).run Tryr.prog w = .ok none w) :
    (Instr.mapUpdate 41 (.map (some m)) K v).run Tryr.prog w = .ok () { w with heap := w.heap.setIfInBounds m (.map (es.push ⟨K, v, cl⟩) (cl + 1)) } := by
  unfold Instr.mapUpdate
  simp only [Sem.run_bind, run_underlying Tryr.underlying41, Result.andThen_ok, Go.MapKept.run_getObj_map hm, hc _, hf, Go.MapKept.run_setObj_map _ hm]
theorem upd_old {K : Value} {m i : Nat} {es : Array MapEntry} {cl : Nat} {w : World} {e : MapEntry} {x : Value} (v : Value) (hm : w.heap[m]? = some (.map es cl)) (hc : K44 K) (hf : ∀ w, (Instr.findKey 46 K es.toList).run Tryr.prog w = .ok (some (i, x)) w)
    (he : es[i]? = some e) (hk : e.key = K) (hs : ∀ w, (Instr.keyThatStays K K).run Tryr.prog w = .ok K w) :
    (Instr.mapUpdate 41 (.map (some m)) K v).run Tryr.prog w = .ok () { w with heap := w.heap.setIfInBounds m (.map (es.modify i fun e => { e with key := K, val := v }) cl) } := by
  unfold Instr.mapUpdate
  simp only [Sem.run_bind, run_underlying Tryr.underlying41, Result.andThen_ok, Go.MapKept.run_getObj_map hm, hc _, hf, he, Option.map_some, Option.getD_some, hk, hs, Go.MapKept.run_setObj_map _ hm]
theorem numA (w : World) : (callFunc 222 #[.pointer (some ⟨0, 20, none⟩)]).run Tryr.prog w = .ok (.value (.int .i64 0)) w := by kernel_rfl
theorem numE (w : World) : (callFunc 222 #[.pointer (some ⟨0, 25, none⟩)]).run Tryr.prog w = .ok (.value (.int .i64 1)) w := by kernel_rfl
end Go.Proofs.YthlmcnlkmgeohaaReflFmt.nat
