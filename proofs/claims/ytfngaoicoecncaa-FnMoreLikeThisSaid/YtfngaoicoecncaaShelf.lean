/-
  The contract of the library's sort of texts, laid at this program.
-/
import Derived.Shelf.Sort.Plain
import Derived.Test.YtfngaoicoecncaaProg
namespace Go.Proofs
open Go.Shelf
def Try.lays190_ren : Go.Shelf.Ren := ⟨fun | 190 => 108 | 125 => 110 | 258 => 109 | 128 => 120 | 129 => 121 | 302 => 111 | 303 => 112 | 304 => 113 | 305 => 114 | 306 => 115 | 307 => 116 | 308 => 117 | 309 => 118 | 310 => 119 | 333 => 122 | 329 => 123 | 330 => 124 | 334 => 125 | 335 => 126 | 336 => 127 | 344 => 128 | n => n, fun | 31 => 27 | 9 => 9 | 3 => 3 | 46 => 143 | 0 => 0 | 51 => 153 | 53 => 155 | 4 => 4 | 183 => 146 | 182 => 145 | 131 => 150 | 5 => 5 | 218 => 156 | 222 => 108 | 228 => 161 | 229 => 162 | n => n, fun | n => n⟩
theorem Try.lays190 : Go.Proofs.Lays.n190 Try.prog Try.lays190_ren := {
  mixed := by kernel_rfl
  f125 := Try.func110.trans (congrArg some (by kernel_rfl))
  f128 := Try.func120.trans (congrArg some (by kernel_rfl))
  f129 := Try.func121.trans (congrArg some (by kernel_rfl))
  f190 := Try.func108.trans (congrArg some (by kernel_rfl))
  f258 := Try.func109.trans (congrArg some (by kernel_rfl))
  f302 := Try.func111.trans (congrArg some (by kernel_rfl))
  f303 := Try.func112.trans (congrArg some (by kernel_rfl))
  f304 := Try.func113.trans (congrArg some (by kernel_rfl))
  f305 := Try.func114.trans (congrArg some (by kernel_rfl))
  f306 := Try.func115.trans (congrArg some (by kernel_rfl))
  f307 := Try.func116.trans (congrArg some (by kernel_rfl))
  f308 := Try.func117.trans (congrArg some (by kernel_rfl))
  f309 := Try.func118.trans (congrArg some (by kernel_rfl))
  f310 := Try.func119.trans (congrArg some (by kernel_rfl))
  f329 := Try.func123.trans (congrArg some (by kernel_rfl))
  f330 := Try.func124.trans (congrArg some (by kernel_rfl))
  f333 := Try.func122.trans (congrArg some (by kernel_rfl))
  f334 := Try.func125.trans (congrArg some (by kernel_rfl))
  f335 := Try.func126.trans (congrArg some (by kernel_rfl))
  f336 := Try.func127.trans (congrArg some (by kernel_rfl))
  f344 := Try.func128.trans (congrArg some (by kernel_rfl))
  t0 := Try.underlying0
  a0 := Try.isAgg0
  z0 := Try.sizeOf0
  v0 := Try.zeroValue0
  t3 := Try.underlying3
  a3 := Try.isAgg3
  z3 := Try.sizeOf3
  v3 := Try.zeroValue3
  t4 := Try.underlying4
  a4 := Try.isAgg4
  z4 := Try.sizeOf4
  v4 := Try.zeroValue4
  t5 := Try.underlying5
  a5 := Try.isAgg5
  z5 := Try.sizeOf5
  v5 := Try.zeroValue5
  t9 := Try.underlying9
  a9 := Try.isAgg9
  z9 := Try.sizeOf9
  v9 := Try.zeroValue9
  t31 := Try.underlying27
  a31 := Try.isAgg27
  z31 := Try.sizeOf27
  v31 := Try.zeroValue27
  t46 := Try.underlying143
  a46 := Try.isAgg143
  z46 := Try.sizeOf143
  v46 := Try.zeroValue143
  t51 := Try.underlying153
  a51 := Try.isAgg153
  z51 := Try.sizeOf153
  v51 := Try.zeroValue153
  t53 := Try.underlying155
  a53 := Try.isAgg155
  z53 := Try.sizeOf155
  v53 := Try.zeroValue155
  t131 := Try.underlying150
  a131 := Try.isAgg150
  z131 := Try.sizeOf150
  v131 := Try.zeroValue150
  t182 := Try.underlying145
  a182 := Try.isAgg145
  z182 := Try.sizeOf145
  v182 := Try.zeroValue145
  t183 := Try.underlying146
  a183 := Try.isAgg146
  z183 := Try.sizeOf146
  v183 := Try.zeroValue146
  t218 := Try.underlying156
  a218 := Try.isAgg156
  z218 := Try.sizeOf156
  v218 := Try.zeroValue156
  t222 := Try.underlying108
  a222 := Try.isAgg108
  z222 := Try.sizeOf108
  v222 := Try.zeroValue108
  t228 := Try.underlying161
  a228 := Try.isAgg161
  z228 := Try.sizeOf161
  v228 := Try.zeroValue161
  t229 := Try.underlying162
  a229 := Try.isAgg162
  z229 := Try.sizeOf162
  v229 := Try.zeroValue162 }
open Go.Sort Go.RowKit in
theorem Try.slices_Sort_string (blk off cap : Nat) (ss : List (List UInt8)) (w : World) (hH : Holds encStr w blk off ss.toArray) (hblk : blk < w.heap.size) (hsz : ss.length < 4611686018427387904) :
    Calls Try.prog 108 #[.slice (some ⟨blk, off, none⟩) ss.length cap] w fun e w' =>
      e = .returned (.tuple #[]) ∧ ∃ n os, w' = grow (putRow encStr (Sort.ahead w n) blk off (ss.mergeSort fun x y => decide (x ≤ y)).toArray) os := Any.slices_Sort_string Try.lays190 blk off cap ss w hH hblk hsz
end Go.Proofs
