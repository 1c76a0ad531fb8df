/-
  The contract of the library's sort of texts, laid at this program.
-/
import Derived.Shelf.Sort.Plain
import Derived.Test.YtdjojnlejkljdaaGreatProg
namespace Go.Proofs
open Go.Shelf
def Tryz.lays190_ren : Go.Shelf.Ren := ⟨fun | 190 => 87 | 125 => 99 | 258 => 98 | 128 => 109 | 129 => 110 | 302 => 100 | 303 => 101 | 304 => 102 | 305 => 103 | 306 => 104 | 307 => 105 | 308 => 106 | 309 => 107 | 310 => 108 | 333 => 111 | 329 => 112 | 330 => 113 | 334 => 114 | 335 => 115 | 336 => 116 | 344 => 117 | n => n, fun | 31 => 22 | 9 => 9 | 3 => 3 | 46 => 157 | 0 => 0 | 51 => 171 | 53 => 173 | 4 => 4 | 183 => 163 | 182 => 162 | 131 => 168 | 5 => 5 | 218 => 174 | 222 => 91 | 228 => 179 | 229 => 180 | n => n, fun | n => n⟩
theorem Tryz.lays190 : Go.Proofs.Lays.n190 Tryz.prog Tryz.lays190_ren := {
  mixed := by kernel_rfl
  f125 := Tryz.func99.trans (congrArg some (by kernel_rfl))
  f128 := Tryz.func109.trans (congrArg some (by kernel_rfl))
  f129 := Tryz.func110.trans (congrArg some (by kernel_rfl))
  f190 := Tryz.func87.trans (congrArg some (by kernel_rfl))
  f258 := Tryz.func98.trans (congrArg some (by kernel_rfl))
  f302 := Tryz.func100.trans (congrArg some (by kernel_rfl))
  f303 := Tryz.func101.trans (congrArg some (by kernel_rfl))
  f304 := Tryz.func102.trans (congrArg some (by kernel_rfl))
  f305 := Tryz.func103.trans (congrArg some (by kernel_rfl))
  f306 := Tryz.func104.trans (congrArg some (by kernel_rfl))
  f307 := Tryz.func105.trans (congrArg some (by kernel_rfl))
  f308 := Tryz.func106.trans (congrArg some (by kernel_rfl))
  f309 := Tryz.func107.trans (congrArg some (by kernel_rfl))
  f310 := Tryz.func108.trans (congrArg some (by kernel_rfl))
  f329 := Tryz.func112.trans (congrArg some (by kernel_rfl))
  f330 := Tryz.func113.trans (congrArg some (by kernel_rfl))
  f333 := Tryz.func111.trans (congrArg some (by kernel_rfl))
  f334 := Tryz.func114.trans (congrArg some (by kernel_rfl))
  f335 := Tryz.func115.trans (congrArg some (by kernel_rfl))
  f336 := Tryz.func116.trans (congrArg some (by kernel_rfl))
  f344 := Tryz.func117.trans (congrArg some (by kernel_rfl))
  t0 := Tryz.underlying0
  a0 := Tryz.isAgg0
  z0 := Tryz.sizeOf0
  v0 := Tryz.zeroValue0
  t3 := Tryz.underlying3
  a3 := Tryz.isAgg3
  z3 := Tryz.sizeOf3
  v3 := Tryz.zeroValue3
  t4 := Tryz.underlying4
  a4 := Tryz.isAgg4
  z4 := Tryz.sizeOf4
  v4 := Tryz.zeroValue4
  t5 := Tryz.underlying5
  a5 := Tryz.isAgg5
  z5 := Tryz.sizeOf5
  v5 := Tryz.zeroValue5
  t9 := Tryz.underlying9
  a9 := Tryz.isAgg9
  z9 := Tryz.sizeOf9
  v9 := Tryz.zeroValue9
  t31 := Tryz.underlying22
  a31 := Tryz.isAgg22
  z31 := Tryz.sizeOf22
  v31 := Tryz.zeroValue22
  t46 := Tryz.underlying157
  a46 := Tryz.isAgg157
  z46 := Tryz.sizeOf157
  v46 := Tryz.zeroValue157
  t51 := Tryz.underlying171
  a51 := Tryz.isAgg171
  z51 := Tryz.sizeOf171
  v51 := Tryz.zeroValue171
  t53 := Tryz.underlying173
  a53 := Tryz.isAgg173
  z53 := Tryz.sizeOf173
  v53 := Tryz.zeroValue173
  t131 := Tryz.underlying168
  a131 := Tryz.isAgg168
  z131 := Tryz.sizeOf168
  v131 := Tryz.zeroValue168
  t182 := Tryz.underlying162
  a182 := Tryz.isAgg162
  z182 := Tryz.sizeOf162
  v182 := Tryz.zeroValue162
  t183 := Tryz.underlying163
  a183 := Tryz.isAgg163
  z183 := Tryz.sizeOf163
  v183 := Tryz.zeroValue163
  t218 := Tryz.underlying174
  a218 := Tryz.isAgg174
  z218 := Tryz.sizeOf174
  v218 := Tryz.zeroValue174
  t222 := Tryz.underlying91
  a222 := Tryz.isAgg91
  z222 := Tryz.sizeOf91
  v222 := Tryz.zeroValue91
  t228 := Tryz.underlying179
  a228 := Tryz.isAgg179
  z228 := Tryz.sizeOf179
  v228 := Tryz.zeroValue179
  t229 := Tryz.underlying180
  a229 := Tryz.isAgg180
  z229 := Tryz.sizeOf180
  v229 := Tryz.zeroValue180 }
open Go.Sort Go.RowKit in
theorem Tryz.slices_Sort_string (blk off cap : Nat) (ss : List (List UInt8)) (w : World) (hH : Holds encStr w blk off ss.toArray) (hblk : blk < w.heap.size) (hsz : ss.length < 4611686018427387904) :
    Calls Tryz.prog 87 #[.slice (some ⟨blk, off, none⟩) ss.length cap] w fun e w' =>
      e = .returned (.tuple #[]) ∧ ∃ n os, w' = grow (putRow encStr (Sort.ahead w n) blk off (ss.mergeSort fun x y => decide (x ≤ y)).toArray) os := Any.slices_Sort_string Tryz.lays190 blk off cap ss w hH hblk hsz
end Go.Proofs
