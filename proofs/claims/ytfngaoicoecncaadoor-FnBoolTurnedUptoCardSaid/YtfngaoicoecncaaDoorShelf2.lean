/-
  The contract of the library's Itoa, laid at this program.
-/
import Derived.Shelf.Strconv.Itoa3
import Derived.Test.YtfngaoicoecncaaDoorProg
namespace Go.Proofs
open Go.Shelf
def Tryd.laysM171_ren : Go.Shelf.Ren := ⟨fun | 171 => 32 | 243 => 39 | 246 => 52 | 283 => 54 | 284 => 55 | 285 => 56 | 286 => 57 | 129 => 61 | 317 => 60 | 318 => 62 | 319 => 63 | 320 => 64 | 337 => 75 | 338 => 76 | n => n, fun | 3 => 3 | 9 => 9 | 2 => 2 | 4 => 4 | 171 => 100 | 0 => 0 | 53 => 101 | 37 => 104 | 5 => 5 | 173 => 105 | 212 => 112 | 51 => 113 | 20 => 20 | 213 => 114 | 46 => 109 | 232 => 131 | 233 => 132 | n => n, fun | 17 => 0 | 18 => 1 | 19 => 2 | n => n⟩
theorem Tryd.laysM171 : Go.Proofs.LaysM.n171 Tryd.prog Tryd.laysM171_ren := {
  mixed := by kernel_rfl
  f129 := Tryd.func61.trans (congrArg some (by kernel_rfl))
  f171 := Tryd.func32.trans (congrArg some (by kernel_rfl))
  f243 := Tryd.func39.trans (congrArg some (by kernel_rfl))
  f246 := Tryd.func52.trans (congrArg some (by kernel_rfl))
  f283 := Tryd.func54.trans (congrArg some (by kernel_rfl))
  f284 := Tryd.func55.trans (congrArg some (by kernel_rfl))
  f285 := Tryd.func56.trans (congrArg some (by kernel_rfl))
  f286 := Tryd.func57.trans (congrArg some (by kernel_rfl))
  f317 := Tryd.func60.trans (congrArg some (by kernel_rfl))
  f318 := Tryd.func62.trans (congrArg some (by kernel_rfl))
  f319 := Tryd.func63.trans (congrArg some (by kernel_rfl))
  f320 := Tryd.func64.trans (congrArg some (by kernel_rfl))
  f337 := Tryd.func75.trans (congrArg some (by kernel_rfl))
  f338 := Tryd.func76.trans (congrArg some (by kernel_rfl))
  t0 := Tryd.underlying0
  a0 := Tryd.isAgg0
  z0 := Tryd.sizeOf0
  v0 := Tryd.zeroValue0
  t2 := Tryd.underlying2
  a2 := Tryd.isAgg2
  z2 := Tryd.sizeOf2
  v2 := Tryd.zeroValue2
  t3 := Tryd.underlying3
  a3 := Tryd.isAgg3
  z3 := Tryd.sizeOf3
  v3 := Tryd.zeroValue3
  t4 := Tryd.underlying4
  a4 := Tryd.isAgg4
  z4 := Tryd.sizeOf4
  v4 := Tryd.zeroValue4
  t5 := Tryd.underlying5
  a5 := Tryd.isAgg5
  z5 := Tryd.sizeOf5
  v5 := Tryd.zeroValue5
  t9 := Tryd.underlying9
  a9 := Tryd.isAgg9
  z9 := Tryd.sizeOf9
  v9 := Tryd.zeroValue9
  t20 := Tryd.underlying20
  a20 := Tryd.isAgg20
  z20 := Tryd.sizeOf20
  v20 := Tryd.zeroValue20
  t37 := Tryd.underlying104
  a37 := Tryd.isAgg104
  z37 := Tryd.sizeOf104
  v37 := Tryd.zeroValue104
  t46 := Tryd.underlying109
  a46 := Tryd.isAgg109
  z46 := Tryd.sizeOf109
  v46 := Tryd.zeroValue109
  t51 := Tryd.underlying113
  a51 := Tryd.isAgg113
  z51 := Tryd.sizeOf113
  v51 := Tryd.zeroValue113
  t53 := Tryd.underlying101
  a53 := Tryd.isAgg101
  z53 := Tryd.sizeOf101
  v53 := Tryd.zeroValue101
  t171 := Tryd.underlying100
  a171 := Tryd.isAgg100
  z171 := Tryd.sizeOf100
  v171 := Tryd.zeroValue100
  t173 := Tryd.underlying105
  a173 := Tryd.isAgg105
  z173 := Tryd.sizeOf105
  v173 := Tryd.zeroValue105
  t212 := Tryd.underlying112
  a212 := Tryd.isAgg112
  z212 := Tryd.sizeOf112
  v212 := Tryd.zeroValue112
  t213 := Tryd.underlying114
  a213 := Tryd.isAgg114
  z213 := Tryd.sizeOf114
  t232 := Tryd.underlying131
  a232 := Tryd.isAgg131
  z232 := Tryd.sizeOf131
  v232 := Tryd.zeroValue131
  t233 := Tryd.underlying132
  a233 := Tryd.isAgg132
  z233 := Tryd.sizeOf132
  v233 := Tryd.zeroValue132
  g17 := by kernel_rfl
  g18 := by kernel_rfl
  g19 := by kernel_rfl
  i0 := by kernel_rfl
  i2 := by kernel_rfl
  i3 := by kernel_rfl
  i4 := by kernel_rfl
  i5 := by kernel_rfl
  i9 := by kernel_rfl
  i20 := by kernel_rfl
  i37 := by kernel_rfl
  i46 := by kernel_rfl
  i51 := by kernel_rfl
  i53 := by kernel_rfl
  i171 := by kernel_rfl
  i173 := by kernel_rfl
  i212 := by kernel_rfl
  i232 := by kernel_rfl
  i233 := by kernel_rfl
  m17 := by kernel_rfl
  m18 := by kernel_rfl
  m19 := by kernel_rfl }
open Go.RowKit Go.Sort Go.Lib in
/-- strconv.Itoa: "Itoa is equivalent to FormatInt(int64(i), 10).": i's DECIMAL NUMERAL ('Lib.itoa': a '-' where i is negative, then the digits), FOR EVERY int. The world behind the call: the world before it, new blocks behind the heap (the library's 'var a [24]byte'), draws. (LAID: no walk: one application.) -/
theorem Tryd.strconv_Itoa (n : Int) (h0 : -9223372036854775808 ≤ n) (h1 : n ≤ 9223372036854775807) (w : World) (htab : Lib.TabIs Tryd.prog w "internal/strconv.uint64pow10" .u64 Lib.pow10Tab) :
    Calls Tryd.prog 32 #[.int .i64 n] w fun e w' => e = .returned (.string ⟨(Lib.itoa n).toArray⟩) ∧ ∃ k os, w' = grow (w.drewN k) os := Any.strconv_Itoa Tryd.laysM171 n h0 h1 w htab
end Go.Proofs
