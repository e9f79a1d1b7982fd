/-
What package reflect's entries answer at an int64 value, and that zzItoa writes the decimal of every int64. No condition.
-/
import Derived.Test.YtddimfehmmnaeaaReflDoorChecked
import Derived.WalkKit
import Derived.ProofKit
import Derived.OpenShut
import Derived.WalkLawsBesides
import Derived.WalkSpells
import Derived.Handy
import Derived.Laws.Externs
import Derived.Lib.ItoaMem
import Derived.Lib.ItoaLen
import Derived.Lib.Hide
namespace Go.Proofs.YtddimfehmmnaeaaReflDoor.ext
open Go Go.Proofs Go.RowKit
set_option maxRecDepth 100000
set_option maxHeartbeats 400000
noncomputable def V (a : Addr) : Value := .agg #[typeHandle Tryr.prog 2, .pointer (some a), .int .u64 134]
noncomputable def RV (a : Addr) : Extern.Rvalue.V := { t := 2, a := a, flag := 134 }
theorem parts (a : Addr) (w : World) : (Extern.Rvalue.partsAny (V a)).run Tryr.prog w = .ok (some (RV a)) w := by kernel_rfl
theorem parts' (a : Addr) (w : World) : (Extern.Rvalue.parts (V a)).run Tryr.prog w = .ok (some (RV a)) w := by kernel_rfl
theorem isValid (a : Addr) (w : World) : (callFunc 13 #[V a]).run Tryr.prog w = .ok (.value (.bool true)) w := by kernel_rfl
theorem kind (a : Addr) (w : World) : (callFunc 14 #[V a]).run Tryr.prog w = .ok (.value (.int .u64 6)) w := by kernel_rfl
theorem canI (a : Addr) (w : World) : (callFunc 16 #[V a]).run Tryr.prog w = .ok (.value (.bool true)) w := by kernel_rfl
theorem get (a : Addr) (v : Value) (w : World) (h : w.cell? a = some v) : ((RV a).get).run Tryr.prog w = .ok v w := by
  have h1 : (isAgg 2).run Tryr.prog w = .ok false w := by kernel_rfl
  unfold Extern.Rvalue.V.get loadVar RV
  simp [Sem.run_bind, h1, Result.andThen, h]
theorem iface0 (a : Addr) (v : Value) (w : World) (h : w.cell? a = some v) : (callFunc 17 #[V a]).run Tryr.prog w = .ok (.value (.iface 2 v)) w := by
  rw [run_callFunc_extern Tryr.func17 (by kernel_rfl) (by kernel_rfl) (by kernel_rfl) (e := Extern.ReflectRead.interface) (by kernel_rfl)]
  unfold Extern.ReflectRead.interface Extern.Rvalue.methodAny
  have h2 : (#[V a] : Array Value).getD 0 (.tuple #[]) = V a := rfl
  have h3 : (RV a).readOnly = false := by kernel_rfl
  have h4 : (RV a).kind = 6 := by kernel_rfl
  simp [Sem.run_bind, h2, parts, Result.andThen, h3, h4, get a v w h]
  rfl
theorem int0 (a : Addr) (n : Int) (w : World) (h : w.cell? a = some (.int .i64 n)) : (callFunc 23 #[V a]).run Tryr.prog w = .ok (.value (.int .i64 n)) w := by
  rw [run_callFunc_extern Tryr.func23 (by kernel_rfl) (by kernel_rfl) (by kernel_rfl) (e := Extern.ReflectRead.number "Int" 2 6 .i64) (by kernel_rfl)]
  unfold Extern.ReflectRead.number Extern.Rvalue.method
  have h2 : (#[V a] : Array Value).getD 0 (.tuple #[]) = V a := rfl
  have h4 : (RV a).kind = 6 := by kernel_rfl
  simp [Sem.run_bind, h2, parts', Result.andThen, h4, get a _ w h]
  rfl

/-- the digits that stand in the buffer from place i on -/
def Inv (U i : Nat) (C : Array Value) : Prop := C.size = 20 ∧ ∀ t, i ≤ t → t < 20 → C[t]? = some (.int .u8 ((Lib.dg U (19 - t)).toNat : Int))
theorem inv_step {U i q : Nat} {C : Array Value} (h : Inv U i C) (hi : 1 ≤ i) (hi2 : i ≤ 20) (hq : q = U / 10 ^ (20 - i)) : Inv U (i - 1) (C.setIfInBounds (i - 1) (.int .u8 (48 + (q : Int) % 10))) := by
  refine ⟨by simp [h.1], fun t h1 h2 => ?_⟩
  by_cases e : t = i - 1
  · subst e
    rw [Array.getElem?_setIfInBounds_self_of_lt (by rw [h.1]; omega)]
    congr 2
    unfold Lib.dg
    rw [show 19 - (i - 1) = 20 - i by omega, ← hq]
    have : (UInt8.ofNat (48 + q % 10)).toNat = 48 + q % 10 := by rw [UInt8.toNat_ofNat']; omega
    rw [this]; omega
  · rw [Array.getElem?_setIfInBounds_ne (by omega)]
    exact h.2 t (by omega) h2

theorem slice_at (b j : Nat) (hj : j < 20) (w : World) : (Instr.sliceAt 59 (.pointer (some ⟨b, 0, none⟩)) (some (.int .i64 (j : Int))) none none).run Tryr.prog w = .ok (.slice (some ⟨b, j, none⟩) (20 - j) (20 - j)) w := by
  have hl : Tryr.prog.arrayLen 59 = 20 := by kernel_rfl
  have hs : (Go.sizeOf (Tryr.prog.elem 59)).run Tryr.prog w = .ok 1 w := by kernel_rfl
  rw [run_sliceAt_array_l w 59 ⟨b, 0, none⟩ Tryr.underlying59 .i64 j (by omega) (by rw [hl]; omega), hs, hl]
  have h20 : ¬ 20 = j := by omega
  simp [Result.andThen, slicedAt, Addr.add, h20]
  omega
theorem nd_of {u j q : Nat} (hj : j < 20) (hq : q = u / 10 ^ (19 - j)) (h : q < 10) (h2 : j = 19 ∨ 1 ≤ q) : Lib.nDigits u = 20 - j := by
  have hp : 1 ≤ 10 ^ (19 - j) := Nat.one_le_pow _ _ (by decide)
  have hlt : u < 10 ^ (19 - j + 1) := by
    rw [Nat.pow_succ]
    rw [hq] at h
    have := (Nat.div_lt_iff_lt_mul (by omega)).1 h
    omega
  rcases h2 with h2 | h2
  · subst h2
    exact Lib.nDigits_small (by simpa using hlt)
  · rw [Lib.nDigits_unique (19 - j) u ?_ hlt]
    · omega
    · rw [hq] at h2
      have := (Nat.le_div_iff_mul_le (by omega)).1 h2
      omega
theorem conv_back {u j : Nat} {C : Array Value} (hj : j < 20) (h : Inv u j C) (hd : Lib.nDigits u = 20 - j) (w : World) :
    (convert 35 9 (.slice (some ⟨w.heap.size, j, none⟩) (20 - j) (20 - j))).run Tryr.prog (w.alloc (.cells C 59)) = .ok (.string ⟨(Lib.decDigits u).toArray⟩) (w.alloc (.cells C 59)) := by
  have hlen : (Lib.decDigits u).length = 20 - j := by rw [Lib.decDigits_length, hd]
  have hb := run_convert_bytes_back (P := Tryr.prog) (w.alloc (.cells C 59)) 35 9 5 ⟨w.heap.size, j, none⟩ (20 - j) (Lib.decDigits u) Tryr.underlying35 Tryr.underlying5 Tryr.underlying9 (by
    intro t ht
    rw [Lib.add_plain, World.cell?_alloc_new, h.2 (j + t) (by omega) (by omega)]
    have e := Lib.decDigits_eq u
    have : (Lib.decDigits u)[t] = Lib.dg u (Lib.nDigits u - 1 - t) := by
      simp only [e, List.getElem_map, List.getElem_range]
    rw [this, hd, show 19 - (j + t) = 20 - j - 1 - t by omega])
  rw [hlen] at hb
  exact hb
theorem itoa_pos (u : Nat) (w : World) (hu : (u : Int) ≤ 9223372036854775807) : Calls Tryr.prog 6 #[.int .i64 (u : Int)] w fun e w' => e = .returned (.string ⟨(Lib.itoa u).toArray⟩) ∧ Below w.heap.size w w' := by
  have hn : ¬ ((u : Int) < 0) := by omega
  go_enter Tryr.func6, Tryr.ntmps6
  go_wp2
  go_loopw [5, 3] (fun v5 v3 wr => ∃ (i q : Nat) (C : Array Value), i ≤ 20 ∧ v5 = .int .i64 (i : Int) ∧ v3 = .int .u64 (q : Int) ∧ Hid (q = u / 10 ^ (20 - i)) ∧ (i = 20 ∨ 1 ≤ q) ∧ Inv u i C ∧ wr = w.alloc (.cells C 59)) (fun v5 _ _ => (intOf v5).toNat)
  case atStart => 
    refine ⟨20, u, _, Nat.le_refl _, rfl, rfl, by simp [Hid], .inl rfl, ⟨rfl, fun t h1 h2 => by omega⟩, rfl⟩
  case round =>
    obtain ⟨i, q, C, h1, rfl, rfl, HQ, h2, HI, rfl⟩ := hrel
    have hi : 1 ≤ i := by
      rcases h2 with h2 | h2
      · omega
      · rcases Nat.eq_zero_or_pos i with h0 | h0
        · subst h0
          have hq := HQ.out
          rw [Nat.div_eq_of_lt (by omega)] at hq
          omega
        · exact h0
    obtain ⟨j, rfl⟩ : ∃ j, i = j + 1 := ⟨i - 1, by omega⟩
    obtain ⟨v0, hv0⟩ : ∃ v, C[j]? = some v := ⟨_, Array.getElem?_eq_getElem (by rw [HI.1]; omega)⟩
    have hqb : (q : Int) ≤ 9223372036854775808 := by
      have hq := HQ.out
      have : q ≤ u := by rw [hq]; exact Nat.div_le_self _ _
      omega
    have HI2 := Lib.hid (inv_step HI hi h1 HQ.out)
    have h2' : j = 19 ∨ 1 ≤ q := by omega
    clear HI h2
    by_cases hz : q < 10
    · have e1 : ((q : Int) / 10 == 0) = true := by rw [beq_iff_eq]; omega
      have hs := slice_at w.heap.size j (by omega)
      have hcv := conv_back (by omega) HI2.out (nd_of (by omega) (by have := HQ.out; rw [this]; congr 2; omega) hz h2') w
      rw [Nat.add_sub_cancel] at hcv
      clear hi HQ HI2 h2'
      go_wp2
      go_ret
      exact ⟨by rw [Lib.itoa_nonneg]; rfl, (Below.refl _ _).alloc (Nat.le_refl _) _⟩
    · have e1 : ((q : Int) / 10 == 0) = false := by rw [beq_eq_false_iff_ne]; omega
      go_wp2
      refine ⟨⟨j, q / 10, _, by omega, rfl, by simp, ?_, .inr (by omega), HI2.out, rfl⟩, by simp [intOf]⟩
      have hq := HQ.out
      show q / 10 = _
      rw [hq, Nat.div_div_eq_div_mul, ← Nat.pow_succ]
      congr 2; omega
theorem minus_digits (u : Nat) (hp : 1 ≤ u) (hu : (u : Int) ≤ 9223372036854775808) (w : World) :
    (Op.stringOp .add ⟨#[45]⟩ ⟨(Lib.decDigits u).toArray⟩).run Tryr.prog w = .ok (.string ⟨(Lib.itoa (-(u : Int))).toArray⟩) w := by
  have hl : (Lib.decDigits u).length ≤ 20 := by rw [Lib.decDigits_length]; exact Lib.nDigits_le20 u (by omega)
  rw [Lib.itoa_neg u hp]
  have hsz : (⟨(Lib.decDigits u).toArray⟩ : ByteArray).size = (Lib.decDigits u).length := by simp [ByteArray.size]
  have h1 : (⟨#[45]⟩ : ByteArray).size = 1 := rfl
  have hmax : IntKind.i64.max = 9223372036854775807 := rfl
  simp only [Op.stringOp, hsz, h1, hmax]
  rw [if_neg (by omega)]
  simp only [Sem.run_pure]
  congr 2
theorem itoa_neg (u : Nat) (w : World) (hp : 1 ≤ u) (hu : (u : Int) ≤ 9223372036854775808) : Calls Tryr.prog 6 #[.int .i64 (-(u : Int))] w fun e w' => e = .returned (.string ⟨(Lib.itoa (-(u : Int))).toArray⟩) ∧ Below w.heap.size w w' := by
  have hn : (-(u : Int) < 0) := by omega
  have hw1 : IntKind.u64.wrap (-IntKind.u64.wrap (-(u : Int))) = u := by simp only [IntKind.wrap_u64]; omega
  go_enter Tryr.func6, Tryr.ntmps6
  go_wp2
  go_loopw [5, 3] (fun v5 v3 wr => ∃ (i q : Nat) (C : Array Value), i ≤ 20 ∧ v5 = .int .i64 (i : Int) ∧ v3 = .int .u64 (q : Int) ∧ Hid (q = u / 10 ^ (20 - i)) ∧ (i = 20 ∨ 1 ≤ q) ∧ Inv u i C ∧ wr = w.alloc (.cells C 59)) (fun v5 _ _ => (intOf v5).toNat)
  case atStart => 
    refine ⟨20, u, _, Nat.le_refl _, rfl, rfl, by simp [Hid], .inl rfl, ⟨rfl, fun t h1 h2 => by omega⟩, rfl⟩
  case round =>
    obtain ⟨i, q, C, h1, rfl, rfl, HQ, h2, HI, rfl⟩ := hrel
    have hi : 1 ≤ i := by
      rcases h2 with h2 | h2
      · omega
      · rcases Nat.eq_zero_or_pos i with h0 | h0
        · subst h0
          have hq := HQ.out
          rw [Nat.div_eq_of_lt (by omega)] at hq
          omega
        · exact h0
    obtain ⟨j, rfl⟩ : ∃ j, i = j + 1 := ⟨i - 1, by omega⟩
    obtain ⟨v0, hv0⟩ : ∃ v, C[j]? = some v := ⟨_, Array.getElem?_eq_getElem (by rw [HI.1]; omega)⟩
    have hqb : (q : Int) ≤ 9223372036854775808 := by
      have hq := HQ.out
      have : q ≤ u := by rw [hq]; exact Nat.div_le_self _ _
      omega
    have HI2 := Lib.hid (inv_step HI hi h1 HQ.out)
    have h2' : j = 19 ∨ 1 ≤ q := by omega
    clear HI h2
    by_cases hz : q < 10
    · have e1 : ((q : Int) / 10 == 0) = true := by rw [beq_iff_eq]; omega
      have hs := slice_at w.heap.size j (by omega)
      have hcv := conv_back (by omega) HI2.out (nd_of (by omega) (by have := HQ.out; rw [this]; congr 2; omega) hz h2') w
      rw [Nat.add_sub_cancel] at hcv
      have hadd := minus_digits u hp hu
      clear hi HQ HI2 h2'
      go_wp2
      go_ret
      exact ⟨rfl, (Below.refl _ _).alloc (Nat.le_refl _) _⟩
    · have e1 : ((q : Int) / 10 == 0) = false := by rw [beq_eq_false_iff_ne]; omega
      go_wp2
      refine ⟨⟨j, q / 10, _, by omega, rfl, by simp, ?_, .inr (by omega), HI2.out, rfl⟩, by simp [intOf]⟩
      have hq := HQ.out
      show q / 10 = _
      rw [hq, Nat.div_div_eq_div_mul, ← Nat.pow_succ]
      congr 2; omega
theorem itoa_all (n : Int) (w : World) (h0 : -9223372036854775808 ≤ n) (h1 : n ≤ 9223372036854775807) : Calls Tryr.prog 6 #[.int .i64 n] w fun e w' => e = .returned (.string ⟨(Lib.itoa n).toArray⟩) ∧ Below w.heap.size w w' := by
  rcases Int.lt_or_le n 0 with h | h
  · obtain ⟨u, rfl⟩ : ∃ u : Nat, n = -(u : Int) := ⟨n.natAbs, by omega⟩
    exact itoa_neg u w (by omega) (by omega)
  · obtain ⟨u, rfl⟩ : ∃ u : Nat, n = u := ⟨n.toNat, by omega⟩
    exact itoa_pos u w (by omega)
end Go.Proofs.YtddimfehmmnaeaaReflDoor.ext
