/-
  The contract of the library's sort of texts, laid at this program.
-/
import Derived.Shelf.Sort.Plain
import Derived.Test.YtdpgmmkecghihaaProg
namespace Go.Proofs
open Go.Shelf
def Try.lays190_ren : Go.Shelf.Ren := ⟨fun | 190 => 168 | 125 => 170 | 258 => 169 | 128 => 180 | 129 => 181 | 302 => 171 | 303 => 172 | 304 => 173 | 305 => 174 | 306 => 175 | 307 => 176 | 308 => 177 | 309 => 178 | 310 => 179 | 333 => 182 | 329 => 183 | 330 => 184 | 334 => 185 | 335 => 186 | 336 => 187 | 344 => 188 | n => n, fun | 31 => 25 | 9 => 9 | 3 => 3 | 46 => 209 | 0 => 0 | 51 => 220 | 53 => 222 | 4 => 4 | 183 => 212 | 182 => 211 | 131 => 217 | 5 => 5 | 218 => 223 | 222 => 148 | 228 => 228 | 229 => 229 | n => n, fun | n => n⟩
theorem Try.lays190 : Go.Proofs.Lays.n190 Try.prog Try.lays190_ren := {
  mixed := by kernel_rfl
  f125 := Try.func170.trans (congrArg some (by kernel_rfl))
  f128 := Try.func180.trans (congrArg some (by kernel_rfl))
  f129 := Try.func181.trans (congrArg some (by kernel_rfl))
  f190 := Try.func168.trans (congrArg some (by kernel_rfl))
  f258 := Try.func169.trans (congrArg some (by kernel_rfl))
  f302 := Try.func171.trans (congrArg some (by kernel_rfl))
  f303 := Try.func172.trans (congrArg some (by kernel_rfl))
  f304 := Try.func173.trans (congrArg some (by kernel_rfl))
  f305 := Try.func174.trans (congrArg some (by kernel_rfl))
  f306 := Try.func175.trans (congrArg some (by kernel_rfl))
  f307 := Try.func176.trans (congrArg some (by kernel_rfl))
  f308 := Try.func177.trans (congrArg some (by kernel_rfl))
  f309 := Try.func178.trans (congrArg some (by kernel_rfl))
  f310 := Try.func179.trans (congrArg some (by kernel_rfl))
  f329 := Try.func183.trans (congrArg some (by kernel_rfl))
  f330 := Try.func184.trans (congrArg some (by kernel_rfl))
  f333 := Try.func182.trans (congrArg some (by kernel_rfl))
  f334 := Try.func185.trans (congrArg some (by kernel_rfl))
  f335 := Try.func186.trans (congrArg some (by kernel_rfl))
  f336 := Try.func187.trans (congrArg some (by kernel_rfl))
  f344 := Try.func188.trans (congrArg some (by kernel_rfl))
  t0 := Try.underlying0
  a0 := Try.isAgg0
  z0 := Try.sizeOf0
  v0 := Try.zeroValue0
  t3 := Try.underlying3
  a3 := Try.isAgg3
  z3 := Try.sizeOf3
  v3 := Try.zeroValue3
  t4 := Try.underlying4
  a4 := Try.isAgg4
  z4 := Try.sizeOf4
  v4 := Try.zeroValue4
  t5 := Try.underlying5
  a5 := Try.isAgg5
  z5 := Try.sizeOf5
  v5 := Try.zeroValue5
  t9 := Try.underlying9
  a9 := Try.isAgg9
  z9 := Try.sizeOf9
  v9 := Try.zeroValue9
  t31 := Try.underlying25
  a31 := Try.isAgg25
  z31 := Try.sizeOf25
  v31 := Try.zeroValue25
  t46 := Try.underlying209
  a46 := Try.isAgg209
  z46 := Try.sizeOf209
  v46 := Try.zeroValue209
  t51 := Try.underlying220
  a51 := Try.isAgg220
  z51 := Try.sizeOf220
  v51 := Try.zeroValue220
  t53 := Try.underlying222
  a53 := Try.isAgg222
  z53 := Try.sizeOf222
  v53 := Try.zeroValue222
  t131 := Try.underlying217
  a131 := Try.isAgg217
  z131 := Try.sizeOf217
  v131 := Try.zeroValue217
  t182 := Try.underlying211
  a182 := Try.isAgg211
  z182 := Try.sizeOf211
  v182 := Try.zeroValue211
  t183 := Try.underlying212
  a183 := Try.isAgg212
  z183 := Try.sizeOf212
  v183 := Try.zeroValue212
  t218 := Try.underlying223
  a218 := Try.isAgg223
  z218 := Try.sizeOf223
  v218 := Try.zeroValue223
  t222 := Try.underlying148
  a222 := Try.isAgg148
  z222 := Try.sizeOf148
  v222 := Try.zeroValue148
  t228 := Try.underlying228
  a228 := Try.isAgg228
  z228 := Try.sizeOf228
  v228 := Try.zeroValue228
  t229 := Try.underlying229
  a229 := Try.isAgg229
  z229 := Try.sizeOf229
  v229 := Try.zeroValue229 }
open Go.Sort Go.RowKit in
theorem Try.slices_Sort_string (blk off cap : Nat) (ss : List (List UInt8)) (w : World) (hH : Holds encStr w blk off ss.toArray) (hblk : blk < w.heap.size) (hsz : ss.length < 4611686018427387904) :
    Calls Try.prog 168 #[.slice (some ⟨blk, off, none⟩) ss.length cap] w fun e w' =>
      e = .returned (.tuple #[]) ∧ ∃ n os, w' = grow (putRow encStr (Sort.ahead w n) blk off (ss.mergeSort fun x y => decide (x ≤ y)).toArray) os := Any.slices_Sort_string Try.lays190 blk off cap ss w hH hblk hsz
end Go.Proofs
