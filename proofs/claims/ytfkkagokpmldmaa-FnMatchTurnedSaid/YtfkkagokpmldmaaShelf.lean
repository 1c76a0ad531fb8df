/-
  The contract of the library's sort of texts, laid at this program.
-/
import Derived.Shelf.Sort.Plain
import Derived.Test.YtfkkagokpmldmaaProg
namespace Go.Proofs
open Go.Shelf
def Try.lays190_ren : Go.Shelf.Ren := ⟨fun | 190 => 57 | 125 => 59 | 258 => 58 | 128 => 69 | 129 => 70 | 302 => 60 | 303 => 61 | 304 => 62 | 305 => 63 | 306 => 64 | 307 => 65 | 308 => 66 | 309 => 67 | 310 => 68 | 333 => 71 | 329 => 72 | 330 => 73 | 334 => 74 | 335 => 75 | 336 => 76 | 344 => 77 | n => n, fun | 31 => 23 | 9 => 9 | 3 => 3 | 46 => 96 | 0 => 0 | 51 => 107 | 53 => 109 | 4 => 4 | 183 => 99 | 182 => 98 | 131 => 104 | 5 => 5 | 218 => 110 | 222 => 65 | 228 => 115 | 229 => 116 | n => n, fun | n => n⟩
theorem Try.lays190 : Go.Proofs.Lays.n190 Try.prog Try.lays190_ren := {
  mixed := by kernel_rfl
  f125 := Try.func59.trans (congrArg some (by kernel_rfl))
  f128 := Try.func69.trans (congrArg some (by kernel_rfl))
  f129 := Try.func70.trans (congrArg some (by kernel_rfl))
  f190 := Try.func57.trans (congrArg some (by kernel_rfl))
  f258 := Try.func58.trans (congrArg some (by kernel_rfl))
  f302 := Try.func60.trans (congrArg some (by kernel_rfl))
  f303 := Try.func61.trans (congrArg some (by kernel_rfl))
  f304 := Try.func62.trans (congrArg some (by kernel_rfl))
  f305 := Try.func63.trans (congrArg some (by kernel_rfl))
  f306 := Try.func64.trans (congrArg some (by kernel_rfl))
  f307 := Try.func65.trans (congrArg some (by kernel_rfl))
  f308 := Try.func66.trans (congrArg some (by kernel_rfl))
  f309 := Try.func67.trans (congrArg some (by kernel_rfl))
  f310 := Try.func68.trans (congrArg some (by kernel_rfl))
  f329 := Try.func72.trans (congrArg some (by kernel_rfl))
  f330 := Try.func73.trans (congrArg some (by kernel_rfl))
  f333 := Try.func71.trans (congrArg some (by kernel_rfl))
  f334 := Try.func74.trans (congrArg some (by kernel_rfl))
  f335 := Try.func75.trans (congrArg some (by kernel_rfl))
  f336 := Try.func76.trans (congrArg some (by kernel_rfl))
  f344 := Try.func77.trans (congrArg some (by kernel_rfl))
  t0 := Try.underlying0
  a0 := Try.isAgg0
  z0 := Try.sizeOf0
  v0 := Try.zeroValue0
  t3 := Try.underlying3
  a3 := Try.isAgg3
  z3 := Try.sizeOf3
  v3 := Try.zeroValue3
  t4 := Try.underlying4
  a4 := Try.isAgg4
  z4 := Try.sizeOf4
  v4 := Try.zeroValue4
  t5 := Try.underlying5
  a5 := Try.isAgg5
  z5 := Try.sizeOf5
  v5 := Try.zeroValue5
  t9 := Try.underlying9
  a9 := Try.isAgg9
  z9 := Try.sizeOf9
  v9 := Try.zeroValue9
  t31 := Try.underlying23
  a31 := Try.isAgg23
  z31 := Try.sizeOf23
  v31 := Try.zeroValue23
  t46 := Try.underlying96
  a46 := Try.isAgg96
  z46 := Try.sizeOf96
  v46 := Try.zeroValue96
  t51 := Try.underlying107
  a51 := Try.isAgg107
  z51 := Try.sizeOf107
  v51 := Try.zeroValue107
  t53 := Try.underlying109
  a53 := Try.isAgg109
  z53 := Try.sizeOf109
  v53 := Try.zeroValue109
  t131 := Try.underlying104
  a131 := Try.isAgg104
  z131 := Try.sizeOf104
  v131 := Try.zeroValue104
  t182 := Try.underlying98
  a182 := Try.isAgg98
  z182 := Try.sizeOf98
  v182 := Try.zeroValue98
  t183 := Try.underlying99
  a183 := Try.isAgg99
  z183 := Try.sizeOf99
  v183 := Try.zeroValue99
  t218 := Try.underlying110
  a218 := Try.isAgg110
  z218 := Try.sizeOf110
  v218 := Try.zeroValue110
  t222 := Try.underlying65
  a222 := Try.isAgg65
  z222 := Try.sizeOf65
  v222 := Try.zeroValue65
  t228 := Try.underlying115
  a228 := Try.isAgg115
  z228 := Try.sizeOf115
  v228 := Try.zeroValue115
  t229 := Try.underlying116
  a229 := Try.isAgg116
  z229 := Try.sizeOf116
  v229 := Try.zeroValue116 }
open Go.Sort Go.RowKit in
theorem Try.slices_Sort_string (blk off cap : Nat) (ss : List (List UInt8)) (w : World) (hH : Holds encStr w blk off ss.toArray) (hblk : blk < w.heap.size) (hsz : ss.length < 4611686018427387904) :
    Calls Try.prog 57 #[.slice (some ⟨blk, off, none⟩) ss.length cap] w fun e w' =>
      e = .returned (.tuple #[]) ∧ ∃ n os, w' = grow (putRow encStr (Sort.ahead w n) blk off (ss.mergeSort fun x y => decide (x ≤ y)).toArray) os := Any.slices_Sort_string Try.lays190 blk off cap ss w hH hblk hsz
end Go.Proofs
