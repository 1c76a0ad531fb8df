/-
  The contract of the library's sort of texts, laid at this program.
-/
import Derived.Shelf.Sort.Plain
import Derived.Test.YtfngaoicoecncaaGreatDoorProg
namespace Go.Proofs
open Go.Shelf
def Tryz.lays190_ren : Go.Shelf.Ren := ⟨fun | 190 => 109 | 125 => 118 | 258 => 117 | 128 => 139 | 129 => 140 | 302 => 130 | 303 => 131 | 304 => 132 | 305 => 133 | 306 => 134 | 307 => 135 | 308 => 136 | 309 => 137 | 310 => 138 | 333 => 150 | 329 => 151 | 330 => 152 | 334 => 153 | 335 => 154 | 336 => 155 | 344 => 161 | n => n, fun | 31 => 23 | 9 => 9 | 3 => 3 | 46 => 188 | 0 => 0 | 51 => 211 | 53 => 197 | 4 => 4 | 183 => 204 | 182 => 203 | 131 => 208 | 5 => 5 | 218 => 224 | 222 => 142 | 228 => 236 | 229 => 237 | n => n, fun | n => n⟩
theorem Tryz.lays190 : Go.Proofs.Lays.n190 Tryz.prog Tryz.lays190_ren := {
  mixed := by kernel_rfl
  f125 := Tryz.func118.trans (congrArg some (by kernel_rfl))
  f128 := Tryz.func139.trans (congrArg some (by kernel_rfl))
  f129 := Tryz.func140.trans (congrArg some (by kernel_rfl))
  f190 := Tryz.func109.trans (congrArg some (by kernel_rfl))
  f258 := Tryz.func117.trans (congrArg some (by kernel_rfl))
  f302 := Tryz.func130.trans (congrArg some (by kernel_rfl))
  f303 := Tryz.func131.trans (congrArg some (by kernel_rfl))
  f304 := Tryz.func132.trans (congrArg some (by kernel_rfl))
  f305 := Tryz.func133.trans (congrArg some (by kernel_rfl))
  f306 := Tryz.func134.trans (congrArg some (by kernel_rfl))
  f307 := Tryz.func135.trans (congrArg some (by kernel_rfl))
  f308 := Tryz.func136.trans (congrArg some (by kernel_rfl))
  f309 := Tryz.func137.trans (congrArg some (by kernel_rfl))
  f310 := Tryz.func138.trans (congrArg some (by kernel_rfl))
  f329 := Tryz.func151.trans (congrArg some (by kernel_rfl))
  f330 := Tryz.func152.trans (congrArg some (by kernel_rfl))
  f333 := Tryz.func150.trans (congrArg some (by kernel_rfl))
  f334 := Tryz.func153.trans (congrArg some (by kernel_rfl))
  f335 := Tryz.func154.trans (congrArg some (by kernel_rfl))
  f336 := Tryz.func155.trans (congrArg some (by kernel_rfl))
  f344 := Tryz.func161.trans (congrArg some (by kernel_rfl))
  t0 := Tryz.underlying0
  a0 := Tryz.isAgg0
  z0 := Tryz.sizeOf0
  v0 := Tryz.zeroValue0
  t3 := Tryz.underlying3
  a3 := Tryz.isAgg3
  z3 := Tryz.sizeOf3
  v3 := Tryz.zeroValue3
  t4 := Tryz.underlying4
  a4 := Tryz.isAgg4
  z4 := Tryz.sizeOf4
  v4 := Tryz.zeroValue4
  t5 := Tryz.underlying5
  a5 := Tryz.isAgg5
  z5 := Tryz.sizeOf5
  v5 := Tryz.zeroValue5
  t9 := Tryz.underlying9
  a9 := Tryz.isAgg9
  z9 := Tryz.sizeOf9
  v9 := Tryz.zeroValue9
  t31 := Tryz.underlying23
  a31 := Tryz.isAgg23
  z31 := Tryz.sizeOf23
  v31 := Tryz.zeroValue23
  t46 := Tryz.underlying188
  a46 := Tryz.isAgg188
  z46 := Tryz.sizeOf188
  v46 := Tryz.zeroValue188
  t51 := Tryz.underlying211
  a51 := Tryz.isAgg211
  z51 := Tryz.sizeOf211
  v51 := Tryz.zeroValue211
  t53 := Tryz.underlying197
  a53 := Tryz.isAgg197
  z53 := Tryz.sizeOf197
  v53 := Tryz.zeroValue197
  t131 := Tryz.underlying208
  a131 := Tryz.isAgg208
  z131 := Tryz.sizeOf208
  v131 := Tryz.zeroValue208
  t182 := Tryz.underlying203
  a182 := Tryz.isAgg203
  z182 := Tryz.sizeOf203
  v182 := Tryz.zeroValue203
  t183 := Tryz.underlying204
  a183 := Tryz.isAgg204
  z183 := Tryz.sizeOf204
  v183 := Tryz.zeroValue204
  t218 := Tryz.underlying224
  a218 := Tryz.isAgg224
  z218 := Tryz.sizeOf224
  v218 := Tryz.zeroValue224
  t222 := Tryz.underlying142
  a222 := Tryz.isAgg142
  z222 := Tryz.sizeOf142
  v222 := Tryz.zeroValue142
  t228 := Tryz.underlying236
  a228 := Tryz.isAgg236
  z228 := Tryz.sizeOf236
  v228 := Tryz.zeroValue236
  t229 := Tryz.underlying237
  a229 := Tryz.isAgg237
  z229 := Tryz.sizeOf237
  v229 := Tryz.zeroValue237 }
open Go.Sort Go.RowKit in
theorem Tryz.slices_Sort_string (blk off cap : Nat) (ss : List (List UInt8)) (w : World) (hH : Holds encStr w blk off ss.toArray) (hblk : blk < w.heap.size) (hsz : ss.length < 4611686018427387904) :
    Calls Tryz.prog 109 #[.slice (some ⟨blk, off, none⟩) ss.length cap] w fun e w' =>
      e = .returned (.tuple #[]) ∧ ∃ n os, w' = grow (putRow encStr (Sort.ahead w n) blk off (ss.mergeSort fun x y => decide (x ≤ y)).toArray) os := Any.slices_Sort_string Tryz.lays190 blk off cap ss w hH hblk hsz
end Go.Proofs
