/-
  The contract of the library's sort of texts, laid at this program.
-/
import Derived.Shelf.Sort.Plain
import Derived.Test.YtfngaoicoecncaaDoorProg
namespace Go.Proofs
open Go.Shelf
def Tryd.lays190_ren : Go.Shelf.Ren := ⟨fun | 190 => 53 | 125 => 59 | 258 => 58 | 128 => 74 | 129 => 61 | 302 => 65 | 303 => 66 | 304 => 67 | 305 => 68 | 306 => 69 | 307 => 70 | 308 => 71 | 309 => 72 | 310 => 73 | 333 => 77 | 329 => 78 | 330 => 79 | 334 => 80 | 335 => 81 | 336 => 82 | 344 => 83 | n => n, fun | 31 => 26 | 9 => 9 | 3 => 3 | 46 => 109 | 0 => 0 | 51 => 113 | 53 => 101 | 4 => 4 | 183 => 118 | 182 => 117 | 131 => 123 | 5 => 5 | 218 => 126 | 222 => 82 | 228 => 133 | 229 => 134 | n => n, fun | n => n⟩
theorem Tryd.lays190 : Go.Proofs.Lays.n190 Tryd.prog Tryd.lays190_ren := {
  mixed := by kernel_rfl
  f125 := Tryd.func59.trans (congrArg some (by kernel_rfl))
  f128 := Tryd.func74.trans (congrArg some (by kernel_rfl))
  f129 := Tryd.func61.trans (congrArg some (by kernel_rfl))
  f190 := Tryd.func53.trans (congrArg some (by kernel_rfl))
  f258 := Tryd.func58.trans (congrArg some (by kernel_rfl))
  f302 := Tryd.func65.trans (congrArg some (by kernel_rfl))
  f303 := Tryd.func66.trans (congrArg some (by kernel_rfl))
  f304 := Tryd.func67.trans (congrArg some (by kernel_rfl))
  f305 := Tryd.func68.trans (congrArg some (by kernel_rfl))
  f306 := Tryd.func69.trans (congrArg some (by kernel_rfl))
  f307 := Tryd.func70.trans (congrArg some (by kernel_rfl))
  f308 := Tryd.func71.trans (congrArg some (by kernel_rfl))
  f309 := Tryd.func72.trans (congrArg some (by kernel_rfl))
  f310 := Tryd.func73.trans (congrArg some (by kernel_rfl))
  f329 := Tryd.func78.trans (congrArg some (by kernel_rfl))
  f330 := Tryd.func79.trans (congrArg some (by kernel_rfl))
  f333 := Tryd.func77.trans (congrArg some (by kernel_rfl))
  f334 := Tryd.func80.trans (congrArg some (by kernel_rfl))
  f335 := Tryd.func81.trans (congrArg some (by kernel_rfl))
  f336 := Tryd.func82.trans (congrArg some (by kernel_rfl))
  f344 := Tryd.func83.trans (congrArg some (by kernel_rfl))
  t0 := Tryd.underlying0
  a0 := Tryd.isAgg0
  z0 := Tryd.sizeOf0
  v0 := Tryd.zeroValue0
  t3 := Tryd.underlying3
  a3 := Tryd.isAgg3
  z3 := Tryd.sizeOf3
  v3 := Tryd.zeroValue3
  t4 := Tryd.underlying4
  a4 := Tryd.isAgg4
  z4 := Tryd.sizeOf4
  v4 := Tryd.zeroValue4
  t5 := Tryd.underlying5
  a5 := Tryd.isAgg5
  z5 := Tryd.sizeOf5
  v5 := Tryd.zeroValue5
  t9 := Tryd.underlying9
  a9 := Tryd.isAgg9
  z9 := Tryd.sizeOf9
  v9 := Tryd.zeroValue9
  t31 := Tryd.underlying26
  a31 := Tryd.isAgg26
  z31 := Tryd.sizeOf26
  v31 := Tryd.zeroValue26
  t46 := Tryd.underlying109
  a46 := Tryd.isAgg109
  z46 := Tryd.sizeOf109
  v46 := Tryd.zeroValue109
  t51 := Tryd.underlying113
  a51 := Tryd.isAgg113
  z51 := Tryd.sizeOf113
  v51 := Tryd.zeroValue113
  t53 := Tryd.underlying101
  a53 := Tryd.isAgg101
  z53 := Tryd.sizeOf101
  v53 := Tryd.zeroValue101
  t131 := Tryd.underlying123
  a131 := Tryd.isAgg123
  z131 := Tryd.sizeOf123
  v131 := Tryd.zeroValue123
  t182 := Tryd.underlying117
  a182 := Tryd.isAgg117
  z182 := Tryd.sizeOf117
  v182 := Tryd.zeroValue117
  t183 := Tryd.underlying118
  a183 := Tryd.isAgg118
  z183 := Tryd.sizeOf118
  v183 := Tryd.zeroValue118
  t218 := Tryd.underlying126
  a218 := Tryd.isAgg126
  z218 := Tryd.sizeOf126
  v218 := Tryd.zeroValue126
  t222 := Tryd.underlying82
  a222 := Tryd.isAgg82
  z222 := Tryd.sizeOf82
  v222 := Tryd.zeroValue82
  t228 := Tryd.underlying133
  a228 := Tryd.isAgg133
  z228 := Tryd.sizeOf133
  v228 := Tryd.zeroValue133
  t229 := Tryd.underlying134
  a229 := Tryd.isAgg134
  z229 := Tryd.sizeOf134
  v229 := Tryd.zeroValue134 }
open Go.Sort Go.RowKit in
theorem Tryd.slices_Sort_string (blk off cap : Nat) (ss : List (List UInt8)) (w : World) (hH : Holds encStr w blk off ss.toArray) (hblk : blk < w.heap.size) (hsz : ss.length < 4611686018427387904) :
    Calls Tryd.prog 53 #[.slice (some ⟨blk, off, none⟩) ss.length cap] w fun e w' =>
      e = .returned (.tuple #[]) ∧ ∃ n os, w' = grow (putRow encStr (Sort.ahead w n) blk off (ss.mergeSort fun x y => decide (x ≤ y)).toArray) os := Any.slices_Sort_string Tryd.lays190 blk off cap ss w hH hblk hsz
end Go.Proofs
