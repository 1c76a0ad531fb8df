/-
  The contract of the library's sort of texts, laid at this program.
-/
import Derived.Shelf.Sort.Plain
import Derived.Test.YtbhdkbbhhffldaaProg
namespace Go.Proofs
open Go.Shelf
def Try.lays190_ren : Go.Shelf.Ren := ⟨fun | 190 => 118 | 125 => 120 | 258 => 119 | 128 => 130 | 129 => 131 | 302 => 121 | 303 => 122 | 304 => 123 | 305 => 124 | 306 => 125 | 307 => 126 | 308 => 127 | 309 => 128 | 310 => 129 | 333 => 132 | 329 => 133 | 330 => 134 | 334 => 135 | 335 => 136 | 336 => 137 | 344 => 138 | n => n, fun | 31 => 23 | 9 => 9 | 3 => 3 | 46 => 175 | 0 => 0 | 51 => 186 | 53 => 188 | 4 => 4 | 183 => 178 | 182 => 177 | 131 => 183 | 5 => 5 | 218 => 189 | 222 => 136 | 228 => 194 | 229 => 195 | n => n, fun | n => n⟩
theorem Try.lays190 : Go.Proofs.Lays.n190 Try.prog Try.lays190_ren := {
  mixed := by kernel_rfl
  f125 := Try.func120.trans (congrArg some (by kernel_rfl))
  f128 := Try.func130.trans (congrArg some (by kernel_rfl))
  f129 := Try.func131.trans (congrArg some (by kernel_rfl))
  f190 := Try.func118.trans (congrArg some (by kernel_rfl))
  f258 := Try.func119.trans (congrArg some (by kernel_rfl))
  f302 := Try.func121.trans (congrArg some (by kernel_rfl))
  f303 := Try.func122.trans (congrArg some (by kernel_rfl))
  f304 := Try.func123.trans (congrArg some (by kernel_rfl))
  f305 := Try.func124.trans (congrArg some (by kernel_rfl))
  f306 := Try.func125.trans (congrArg some (by kernel_rfl))
  f307 := Try.func126.trans (congrArg some (by kernel_rfl))
  f308 := Try.func127.trans (congrArg some (by kernel_rfl))
  f309 := Try.func128.trans (congrArg some (by kernel_rfl))
  f310 := Try.func129.trans (congrArg some (by kernel_rfl))
  f329 := Try.func133.trans (congrArg some (by kernel_rfl))
  f330 := Try.func134.trans (congrArg some (by kernel_rfl))
  f333 := Try.func132.trans (congrArg some (by kernel_rfl))
  f334 := Try.func135.trans (congrArg some (by kernel_rfl))
  f335 := Try.func136.trans (congrArg some (by kernel_rfl))
  f336 := Try.func137.trans (congrArg some (by kernel_rfl))
  f344 := Try.func138.trans (congrArg some (by kernel_rfl))
  t0 := Try.underlying0
  a0 := Try.isAgg0
  z0 := Try.sizeOf0
  v0 := Try.zeroValue0
  t3 := Try.underlying3
  a3 := Try.isAgg3
  z3 := Try.sizeOf3
  v3 := Try.zeroValue3
  t4 := Try.underlying4
  a4 := Try.isAgg4
  z4 := Try.sizeOf4
  v4 := Try.zeroValue4
  t5 := Try.underlying5
  a5 := Try.isAgg5
  z5 := Try.sizeOf5
  v5 := Try.zeroValue5
  t9 := Try.underlying9
  a9 := Try.isAgg9
  z9 := Try.sizeOf9
  v9 := Try.zeroValue9
  t31 := Try.underlying23
  a31 := Try.isAgg23
  z31 := Try.sizeOf23
  v31 := Try.zeroValue23
  t46 := Try.underlying175
  a46 := Try.isAgg175
  z46 := Try.sizeOf175
  v46 := Try.zeroValue175
  t51 := Try.underlying186
  a51 := Try.isAgg186
  z51 := Try.sizeOf186
  v51 := Try.zeroValue186
  t53 := Try.underlying188
  a53 := Try.isAgg188
  z53 := Try.sizeOf188
  v53 := Try.zeroValue188
  t131 := Try.underlying183
  a131 := Try.isAgg183
  z131 := Try.sizeOf183
  v131 := Try.zeroValue183
  t182 := Try.underlying177
  a182 := Try.isAgg177
  z182 := Try.sizeOf177
  v182 := Try.zeroValue177
  t183 := Try.underlying178
  a183 := Try.isAgg178
  z183 := Try.sizeOf178
  v183 := Try.zeroValue178
  t218 := Try.underlying189
  a218 := Try.isAgg189
  z218 := Try.sizeOf189
  v218 := Try.zeroValue189
  t222 := Try.underlying136
  a222 := Try.isAgg136
  z222 := Try.sizeOf136
  v222 := Try.zeroValue136
  t228 := Try.underlying194
  a228 := Try.isAgg194
  z228 := Try.sizeOf194
  v228 := Try.zeroValue194
  t229 := Try.underlying195
  a229 := Try.isAgg195
  z229 := Try.sizeOf195
  v229 := Try.zeroValue195 }
open Go.Sort Go.RowKit in
theorem Try.slices_Sort_string (blk off cap : Nat) (ss : List (List UInt8)) (w : World) (hH : Holds encStr w blk off ss.toArray) (hblk : blk < w.heap.size) (hsz : ss.length < 4611686018427387904) :
    Calls Try.prog 118 #[.slice (some ⟨blk, off, none⟩) ss.length cap] w fun e w' =>
      e = .returned (.tuple #[]) ∧ ∃ n os, w' = grow (putRow encStr (Sort.ahead w n) blk off (ss.mergeSort fun x y => decide (x ≤ y)).toArray) os := Any.slices_Sort_string Try.lays190 blk off cap ss w hH hblk hsz
end Go.Proofs
