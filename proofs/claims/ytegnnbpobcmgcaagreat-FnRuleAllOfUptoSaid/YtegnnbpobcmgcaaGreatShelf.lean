/-
  The contract of the library's sort of texts, laid at this program.
-/
import Derived.Shelf.Sort.Plain
import Derived.Test.YtegnnbpobcmgcaaGreatProg
namespace Go.Proofs
open Go.Shelf
def Tryz.lays190_ren : Go.Shelf.Ren := ⟨fun | 190 => 95 | 125 => 107 | 258 => 106 | 128 => 117 | 129 => 118 | 302 => 108 | 303 => 109 | 304 => 110 | 305 => 111 | 306 => 112 | 307 => 113 | 308 => 114 | 309 => 115 | 310 => 116 | 333 => 119 | 329 => 120 | 330 => 121 | 334 => 122 | 335 => 123 | 336 => 124 | 344 => 125 | n => n, fun | 31 => 30 | 9 => 9 | 3 => 3 | 46 => 162 | 0 => 0 | 51 => 176 | 53 => 178 | 4 => 4 | 183 => 168 | 182 => 167 | 131 => 173 | 5 => 5 | 218 => 179 | 222 => 96 | 228 => 184 | 229 => 185 | n => n, fun | n => n⟩
theorem Tryz.lays190 : Go.Proofs.Lays.n190 Tryz.prog Tryz.lays190_ren := {
  mixed := by kernel_rfl
  f125 := Tryz.func107.trans (congrArg some (by kernel_rfl))
  f128 := Tryz.func117.trans (congrArg some (by kernel_rfl))
  f129 := Tryz.func118.trans (congrArg some (by kernel_rfl))
  f190 := Tryz.func95.trans (congrArg some (by kernel_rfl))
  f258 := Tryz.func106.trans (congrArg some (by kernel_rfl))
  f302 := Tryz.func108.trans (congrArg some (by kernel_rfl))
  f303 := Tryz.func109.trans (congrArg some (by kernel_rfl))
  f304 := Tryz.func110.trans (congrArg some (by kernel_rfl))
  f305 := Tryz.func111.trans (congrArg some (by kernel_rfl))
  f306 := Tryz.func112.trans (congrArg some (by kernel_rfl))
  f307 := Tryz.func113.trans (congrArg some (by kernel_rfl))
  f308 := Tryz.func114.trans (congrArg some (by kernel_rfl))
  f309 := Tryz.func115.trans (congrArg some (by kernel_rfl))
  f310 := Tryz.func116.trans (congrArg some (by kernel_rfl))
  f329 := Tryz.func120.trans (congrArg some (by kernel_rfl))
  f330 := Tryz.func121.trans (congrArg some (by kernel_rfl))
  f333 := Tryz.func119.trans (congrArg some (by kernel_rfl))
  f334 := Tryz.func122.trans (congrArg some (by kernel_rfl))
  f335 := Tryz.func123.trans (congrArg some (by kernel_rfl))
  f336 := Tryz.func124.trans (congrArg some (by kernel_rfl))
  f344 := Tryz.func125.trans (congrArg some (by kernel_rfl))
  t0 := Tryz.underlying0
  a0 := Tryz.isAgg0
  z0 := Tryz.sizeOf0
  v0 := Tryz.zeroValue0
  t3 := Tryz.underlying3
  a3 := Tryz.isAgg3
  z3 := Tryz.sizeOf3
  v3 := Tryz.zeroValue3
  t4 := Tryz.underlying4
  a4 := Tryz.isAgg4
  z4 := Tryz.sizeOf4
  v4 := Tryz.zeroValue4
  t5 := Tryz.underlying5
  a5 := Tryz.isAgg5
  z5 := Tryz.sizeOf5
  v5 := Tryz.zeroValue5
  t9 := Tryz.underlying9
  a9 := Tryz.isAgg9
  z9 := Tryz.sizeOf9
  v9 := Tryz.zeroValue9
  t31 := Tryz.underlying30
  a31 := Tryz.isAgg30
  z31 := Tryz.sizeOf30
  v31 := Tryz.zeroValue30
  t46 := Tryz.underlying162
  a46 := Tryz.isAgg162
  z46 := Tryz.sizeOf162
  v46 := Tryz.zeroValue162
  t51 := Tryz.underlying176
  a51 := Tryz.isAgg176
  z51 := Tryz.sizeOf176
  v51 := Tryz.zeroValue176
  t53 := Tryz.underlying178
  a53 := Tryz.isAgg178
  z53 := Tryz.sizeOf178
  v53 := Tryz.zeroValue178
  t131 := Tryz.underlying173
  a131 := Tryz.isAgg173
  z131 := Tryz.sizeOf173
  v131 := Tryz.zeroValue173
  t182 := Tryz.underlying167
  a182 := Tryz.isAgg167
  z182 := Tryz.sizeOf167
  v182 := Tryz.zeroValue167
  t183 := Tryz.underlying168
  a183 := Tryz.isAgg168
  z183 := Tryz.sizeOf168
  v183 := Tryz.zeroValue168
  t218 := Tryz.underlying179
  a218 := Tryz.isAgg179
  z218 := Tryz.sizeOf179
  v218 := Tryz.zeroValue179
  t222 := Tryz.underlying96
  a222 := Tryz.isAgg96
  z222 := Tryz.sizeOf96
  v222 := Tryz.zeroValue96
  t228 := Tryz.underlying184
  a228 := Tryz.isAgg184
  z228 := Tryz.sizeOf184
  v228 := Tryz.zeroValue184
  t229 := Tryz.underlying185
  a229 := Tryz.isAgg185
  z229 := Tryz.sizeOf185
  v229 := Tryz.zeroValue185 }
open Go.Sort Go.RowKit in
theorem Tryz.slices_Sort_string (blk off cap : Nat) (ss : List (List UInt8)) (w : World) (hH : Holds encStr w blk off ss.toArray) (hblk : blk < w.heap.size) (hsz : ss.length < 4611686018427387904) :
    Calls Tryz.prog 95 #[.slice (some ⟨blk, off, none⟩) ss.length cap] w fun e w' =>
      e = .returned (.tuple #[]) ∧ ∃ n os, w' = grow (putRow encStr (Sort.ahead w n) blk off (ss.mergeSort fun x y => decide (x ≤ y)).toArray) os := Any.slices_Sort_string Tryz.lays190 blk off cap ss w hH hblk hsz
end Go.Proofs
