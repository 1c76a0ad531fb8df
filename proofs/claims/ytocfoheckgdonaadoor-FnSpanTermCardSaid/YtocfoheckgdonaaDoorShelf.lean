/-
  The contract of the library's sort of texts, laid at this program.
-/
import Derived.Shelf.Sort.Plain
import Derived.Test.YtocfoheckgdonaaDoorProg
namespace Go.Proofs
open Go.Shelf
def Tryd.lays190_ren : Go.Shelf.Ren := ⟨fun | 190 => 92 | 125 => 100 | 258 => 99 | 128 => 117 | 129 => 118 | 302 => 108 | 303 => 109 | 304 => 110 | 305 => 111 | 306 => 112 | 307 => 113 | 308 => 114 | 309 => 115 | 310 => 116 | 333 => 124 | 329 => 125 | 330 => 126 | 334 => 127 | 335 => 128 | 336 => 129 | 344 => 133 | n => n, fun | 31 => 26 | 9 => 9 | 3 => 3 | 46 => 149 | 0 => 0 | 51 => 166 | 53 => 168 | 4 => 4 | 183 => 159 | 182 => 158 | 131 => 163 | 5 => 5 | 218 => 176 | 222 => 111 | 228 => 188 | 229 => 189 | n => n, fun | n => n⟩
theorem Tryd.lays190 : Go.Proofs.Lays.n190 Tryd.prog Tryd.lays190_ren := {
  mixed := by kernel_rfl
  f125 := Tryd.func100.trans (congrArg some (by kernel_rfl))
  f128 := Tryd.func117.trans (congrArg some (by kernel_rfl))
  f129 := Tryd.func118.trans (congrArg some (by kernel_rfl))
  f190 := Tryd.func92.trans (congrArg some (by kernel_rfl))
  f258 := Tryd.func99.trans (congrArg some (by kernel_rfl))
  f302 := Tryd.func108.trans (congrArg some (by kernel_rfl))
  f303 := Tryd.func109.trans (congrArg some (by kernel_rfl))
  f304 := Tryd.func110.trans (congrArg some (by kernel_rfl))
  f305 := Tryd.func111.trans (congrArg some (by kernel_rfl))
  f306 := Tryd.func112.trans (congrArg some (by kernel_rfl))
  f307 := Tryd.func113.trans (congrArg some (by kernel_rfl))
  f308 := Tryd.func114.trans (congrArg some (by kernel_rfl))
  f309 := Tryd.func115.trans (congrArg some (by kernel_rfl))
  f310 := Tryd.func116.trans (congrArg some (by kernel_rfl))
  f329 := Tryd.func125.trans (congrArg some (by kernel_rfl))
  f330 := Tryd.func126.trans (congrArg some (by kernel_rfl))
  f333 := Tryd.func124.trans (congrArg some (by kernel_rfl))
  f334 := Tryd.func127.trans (congrArg some (by kernel_rfl))
  f335 := Tryd.func128.trans (congrArg some (by kernel_rfl))
  f336 := Tryd.func129.trans (congrArg some (by kernel_rfl))
  f344 := Tryd.func133.trans (congrArg some (by kernel_rfl))
  t0 := Tryd.underlying0
  a0 := Tryd.isAgg0
  z0 := Tryd.sizeOf0
  v0 := Tryd.zeroValue0
  t3 := Tryd.underlying3
  a3 := Tryd.isAgg3
  z3 := Tryd.sizeOf3
  v3 := Tryd.zeroValue3
  t4 := Tryd.underlying4
  a4 := Tryd.isAgg4
  z4 := Tryd.sizeOf4
  v4 := Tryd.zeroValue4
  t5 := Tryd.underlying5
  a5 := Tryd.isAgg5
  z5 := Tryd.sizeOf5
  v5 := Tryd.zeroValue5
  t9 := Tryd.underlying9
  a9 := Tryd.isAgg9
  z9 := Tryd.sizeOf9
  v9 := Tryd.zeroValue9
  t31 := Tryd.underlying26
  a31 := Tryd.isAgg26
  z31 := Tryd.sizeOf26
  v31 := Tryd.zeroValue26
  t46 := Tryd.underlying149
  a46 := Tryd.isAgg149
  z46 := Tryd.sizeOf149
  v46 := Tryd.zeroValue149
  t51 := Tryd.underlying166
  a51 := Tryd.isAgg166
  z51 := Tryd.sizeOf166
  v51 := Tryd.zeroValue166
  t53 := Tryd.underlying168
  a53 := Tryd.isAgg168
  z53 := Tryd.sizeOf168
  v53 := Tryd.zeroValue168
  t131 := Tryd.underlying163
  a131 := Tryd.isAgg163
  z131 := Tryd.sizeOf163
  v131 := Tryd.zeroValue163
  t182 := Tryd.underlying158
  a182 := Tryd.isAgg158
  z182 := Tryd.sizeOf158
  v182 := Tryd.zeroValue158
  t183 := Tryd.underlying159
  a183 := Tryd.isAgg159
  z183 := Tryd.sizeOf159
  v183 := Tryd.zeroValue159
  t218 := Tryd.underlying176
  a218 := Tryd.isAgg176
  z218 := Tryd.sizeOf176
  v218 := Tryd.zeroValue176
  t222 := Tryd.underlying111
  a222 := Tryd.isAgg111
  z222 := Tryd.sizeOf111
  v222 := Tryd.zeroValue111
  t228 := Tryd.underlying188
  a228 := Tryd.isAgg188
  z228 := Tryd.sizeOf188
  v228 := Tryd.zeroValue188
  t229 := Tryd.underlying189
  a229 := Tryd.isAgg189
  z229 := Tryd.sizeOf189
  v229 := Tryd.zeroValue189 }
open Go.Sort Go.RowKit in
theorem Tryd.slices_Sort_string (blk off cap : Nat) (ss : List (List UInt8)) (w : World) (hH : Holds encStr w blk off ss.toArray) (hblk : blk < w.heap.size) (hsz : ss.length < 4611686018427387904) :
    Calls Tryd.prog 92 #[.slice (some ⟨blk, off, none⟩) ss.length cap] w fun e w' =>
      e = .returned (.tuple #[]) ∧ ∃ n os, w' = grow (putRow encStr (Sort.ahead w n) blk off (ss.mergeSort fun x y => decide (x ≤ y)).toArray) os := Any.slices_Sort_string Tryd.lays190 blk off cap ss w hH hblk hsz
end Go.Proofs
