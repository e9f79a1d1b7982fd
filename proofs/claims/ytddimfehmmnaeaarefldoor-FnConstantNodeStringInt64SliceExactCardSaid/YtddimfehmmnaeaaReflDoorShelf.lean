/-
strconv.AppendInt at base 10 appends the decimal of every int64 to a slice of the call's own: the shelf's contract at this program, laid by the kit's lay-plain.mjs. Condition: strconv's table of powers of ten reads as Go lays it.
-/
import Derived.Shelf.Strconv.AppendIntPublic10
import Derived.Ground.NamesProg
import Derived.Test.YtddimfehmmnaeaaReflDoorProg
namespace Go.Proofs
open Go.Shelf
def Tryr.laysAI_ren : Go.Shelf.Ren := ⟨fun | 176 => 22 | 249 => 47 | 288 => 48 | 283 => 56 | 284 => 57 | 285 => 58 | 286 => 59 | 129 => 75 | 317 => 74 | 318 => 76 | 319 => 77 | 320 => 78 | 337 => 95 | 338 => 96 | n => n, fun | 37 => 35 | 2 => 2 | 3 => 3 | 53 => 33 | 4 => 4 | 9 => 9 | 171 => 111 | 0 => 0 | 173 => 114 | 212 => 131 | 51 => 32 | 5 => 5 | 20 => 20 | 213 => 132 | 46 => 30 | 232 => 139 | 233 => 171 | n => n, fun | 17 => 2 | 18 => 6 | 19 => 7 | n => n⟩
theorem Tryr.laysAI : Go.Proofs.LaysM.n176 Tryr.prog Tryr.laysAI_ren := {
  mixed := by kernel_rfl
  f129 := Tryr.func75.trans (congrArg some (by kernel_rfl))
  f176 := Tryr.func22.trans (congrArg some (by kernel_rfl))
  f249 := Tryr.func47.trans (congrArg some (by kernel_rfl))
  f283 := Tryr.func56.trans (congrArg some (by kernel_rfl))
  f284 := Tryr.func57.trans (congrArg some (by kernel_rfl))
  f285 := Tryr.func58.trans (congrArg some (by kernel_rfl))
  f286 := Tryr.func59.trans (congrArg some (by kernel_rfl))
  f288 := Tryr.func48.trans (congrArg some (by kernel_rfl))
  f317 := Tryr.func74.trans (congrArg some (by kernel_rfl))
  f318 := Tryr.func76.trans (congrArg some (by kernel_rfl))
  f319 := Tryr.func77.trans (congrArg some (by kernel_rfl))
  f320 := Tryr.func78.trans (congrArg some (by kernel_rfl))
  f337 := Tryr.func95.trans (congrArg some (by kernel_rfl))
  f338 := Tryr.func96.trans (congrArg some (by kernel_rfl))
  t0 := Tryr.underlying0
  a0 := Tryr.isAgg0
  z0 := Tryr.sizeOf0
  v0 := Tryr.zeroValue0
  t2 := Tryr.underlying2
  a2 := Tryr.isAgg2
  z2 := Tryr.sizeOf2
  v2 := Tryr.zeroValue2
  t3 := Tryr.underlying3
  a3 := Tryr.isAgg3
  z3 := Tryr.sizeOf3
  v3 := Tryr.zeroValue3
  t4 := Tryr.underlying4
  a4 := Tryr.isAgg4
  z4 := Tryr.sizeOf4
  v4 := Tryr.zeroValue4
  t5 := Tryr.underlying5
  a5 := Tryr.isAgg5
  z5 := Tryr.sizeOf5
  v5 := Tryr.zeroValue5
  t9 := Tryr.underlying9
  a9 := Tryr.isAgg9
  z9 := Tryr.sizeOf9
  v9 := Tryr.zeroValue9
  t20 := Tryr.underlying20
  a20 := Tryr.isAgg20
  z20 := Tryr.sizeOf20
  v20 := Tryr.zeroValue20
  t37 := Tryr.underlying35
  a37 := Tryr.isAgg35
  z37 := Tryr.sizeOf35
  v37 := Tryr.zeroValue35
  t46 := Tryr.underlying30
  a46 := Tryr.isAgg30
  z46 := Tryr.sizeOf30
  v46 := Tryr.zeroValue30
  t51 := Tryr.underlying32
  a51 := Tryr.isAgg32
  z51 := Tryr.sizeOf32
  v51 := Tryr.zeroValue32
  t53 := Tryr.underlying33
  a53 := Tryr.isAgg33
  z53 := Tryr.sizeOf33
  v53 := Tryr.zeroValue33
  t171 := Tryr.underlying111
  a171 := Tryr.isAgg111
  z171 := Tryr.sizeOf111
  v171 := Tryr.zeroValue111
  t173 := Tryr.underlying114
  a173 := Tryr.isAgg114
  z173 := Tryr.sizeOf114
  v173 := Tryr.zeroValue114
  t212 := Tryr.underlying131
  a212 := Tryr.isAgg131
  z212 := Tryr.sizeOf131
  v212 := Tryr.zeroValue131
  t213 := Tryr.underlying132
  a213 := Tryr.isAgg132
  z213 := Tryr.sizeOf132
  t232 := Tryr.underlying139
  a232 := Tryr.isAgg139
  z232 := Tryr.sizeOf139
  v232 := Tryr.zeroValue139
  t233 := Tryr.underlying171
  a233 := Tryr.isAgg171
  z233 := Tryr.sizeOf171
  v233 := Tryr.zeroValue171
  g17 := by kernel_rfl
  g18 := by kernel_rfl
  g19 := by kernel_rfl
  i0 := by kernel_rfl
  i2 := by kernel_rfl
  i3 := by kernel_rfl
  i4 := by kernel_rfl
  i5 := by kernel_rfl
  i9 := by kernel_rfl
  i20 := by kernel_rfl
  i37 := by kernel_rfl
  i46 := by kernel_rfl
  i51 := by kernel_rfl
  i53 := by kernel_rfl
  i171 := by kernel_rfl
  i173 := by kernel_rfl
  i212 := by kernel_rfl
  i232 := by kernel_rfl
  i233 := by kernel_rfl
  m17 := by kernel_rfl
  m18 := by kernel_rfl
  m19 := by kernel_rfl }
theorem Tryr.strconv_AppendInt_10 (B n : Nat) (i : Int) (h0 : -9223372036854775808 ≤ i) (h1 : i ≤ 9223372036854775807) (sv : Value) (xs : List Value) (w : World) (hown : w.ownsRow B 5 1 sv n xs) (hBw : B ≤ w.heap.size) (hlim : n + 21 ≤ 140737488355328)
    (htab : Lib.TabBelow Tryr.prog B w "internal/strconv.uint64pow10" .u64 Lib.pow10Tab) :
    Calls Tryr.prog 22 #[sv, .int .i64 i, .int .i64 10] w fun e w' => ∃ v', e = .returned v' ∧ w'.ownsRow B 5 1 v' (n + (Lib.itoa i).length) (xs ++ Lib.byteCells (Lib.itoa i)) ∧ RowKit.Below B w w' ∧ Lib.OthersKept 5 none w w' := Any.strconv_AppendInt_10 Tryr.laysAI B n i h0 h1 sv xs w hown hBw hlim htab
end Go.Proofs
