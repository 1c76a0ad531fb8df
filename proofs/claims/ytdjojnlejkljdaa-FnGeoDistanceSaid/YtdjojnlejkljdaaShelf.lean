/-
  The contract of the library's sort of texts, laid at this program.
-/
import Derived.Shelf.Sort.Plain
import Derived.Test.YtdjojnlejkljdaaProg
namespace Go.Proofs
open Go.Shelf
def Try.lays190_ren : Go.Shelf.Ren := ⟨fun | 190 => 152 | 125 => 154 | 258 => 153 | 128 => 164 | 129 => 165 | 302 => 155 | 303 => 156 | 304 => 157 | 305 => 158 | 306 => 159 | 307 => 160 | 308 => 161 | 309 => 162 | 310 => 163 | 333 => 166 | 329 => 167 | 330 => 168 | 334 => 169 | 335 => 170 | 336 => 171 | 344 => 172 | n => n, fun | 31 => 27 | 9 => 9 | 3 => 3 | 46 => 193 | 0 => 0 | 51 => 203 | 53 => 205 | 4 => 4 | 183 => 196 | 182 => 195 | 131 => 200 | 5 => 5 | 218 => 206 | 222 => 163 | 228 => 211 | 229 => 212 | n => n, fun | n => n⟩
theorem Try.lays190 : Go.Proofs.Lays.n190 Try.prog Try.lays190_ren := {
  mixed := by kernel_rfl
  f125 := Try.func154.trans (congrArg some (by kernel_rfl))
  f128 := Try.func164.trans (congrArg some (by kernel_rfl))
  f129 := Try.func165.trans (congrArg some (by kernel_rfl))
  f190 := Try.func152.trans (congrArg some (by kernel_rfl))
  f258 := Try.func153.trans (congrArg some (by kernel_rfl))
  f302 := Try.func155.trans (congrArg some (by kernel_rfl))
  f303 := Try.func156.trans (congrArg some (by kernel_rfl))
  f304 := Try.func157.trans (congrArg some (by kernel_rfl))
  f305 := Try.func158.trans (congrArg some (by kernel_rfl))
  f306 := Try.func159.trans (congrArg some (by kernel_rfl))
  f307 := Try.func160.trans (congrArg some (by kernel_rfl))
  f308 := Try.func161.trans (congrArg some (by kernel_rfl))
  f309 := Try.func162.trans (congrArg some (by kernel_rfl))
  f310 := Try.func163.trans (congrArg some (by kernel_rfl))
  f329 := Try.func167.trans (congrArg some (by kernel_rfl))
  f330 := Try.func168.trans (congrArg some (by kernel_rfl))
  f333 := Try.func166.trans (congrArg some (by kernel_rfl))
  f334 := Try.func169.trans (congrArg some (by kernel_rfl))
  f335 := Try.func170.trans (congrArg some (by kernel_rfl))
  f336 := Try.func171.trans (congrArg some (by kernel_rfl))
  f344 := Try.func172.trans (congrArg some (by kernel_rfl))
  t0 := Try.underlying0
  a0 := Try.isAgg0
  z0 := Try.sizeOf0
  v0 := Try.zeroValue0
  t3 := Try.underlying3
  a3 := Try.isAgg3
  z3 := Try.sizeOf3
  v3 := Try.zeroValue3
  t4 := Try.underlying4
  a4 := Try.isAgg4
  z4 := Try.sizeOf4
  v4 := Try.zeroValue4
  t5 := Try.underlying5
  a5 := Try.isAgg5
  z5 := Try.sizeOf5
  v5 := Try.zeroValue5
  t9 := Try.underlying9
  a9 := Try.isAgg9
  z9 := Try.sizeOf9
  v9 := Try.zeroValue9
  t31 := Try.underlying27
  a31 := Try.isAgg27
  z31 := Try.sizeOf27
  v31 := Try.zeroValue27
  t46 := Try.underlying193
  a46 := Try.isAgg193
  z46 := Try.sizeOf193
  v46 := Try.zeroValue193
  t51 := Try.underlying203
  a51 := Try.isAgg203
  z51 := Try.sizeOf203
  v51 := Try.zeroValue203
  t53 := Try.underlying205
  a53 := Try.isAgg205
  z53 := Try.sizeOf205
  v53 := Try.zeroValue205
  t131 := Try.underlying200
  a131 := Try.isAgg200
  z131 := Try.sizeOf200
  v131 := Try.zeroValue200
  t182 := Try.underlying195
  a182 := Try.isAgg195
  z182 := Try.sizeOf195
  v182 := Try.zeroValue195
  t183 := Try.underlying196
  a183 := Try.isAgg196
  z183 := Try.sizeOf196
  v183 := Try.zeroValue196
  t218 := Try.underlying206
  a218 := Try.isAgg206
  z218 := Try.sizeOf206
  v218 := Try.zeroValue206
  t222 := Try.underlying163
  a222 := Try.isAgg163
  z222 := Try.sizeOf163
  v222 := Try.zeroValue163
  t228 := Try.underlying211
  a228 := Try.isAgg211
  z228 := Try.sizeOf211
  v228 := Try.zeroValue211
  t229 := Try.underlying212
  a229 := Try.isAgg212
  z229 := Try.sizeOf212
  v229 := Try.zeroValue212 }
open Go.Sort Go.RowKit in
theorem Try.slices_Sort_string (blk off cap : Nat) (ss : List (List UInt8)) (w : World) (hH : Holds encStr w blk off ss.toArray) (hblk : blk < w.heap.size) (hsz : ss.length < 4611686018427387904) :
    Calls Try.prog 152 #[.slice (some ⟨blk, off, none⟩) ss.length cap] w fun e w' =>
      e = .returned (.tuple #[]) ∧ ∃ n os, w' = grow (putRow encStr (Sort.ahead w n) blk off (ss.mergeSort fun x y => decide (x ≤ y)).toArray) os := Any.slices_Sort_string Try.lays190 blk off cap ss w hH hblk hsz
end Go.Proofs
