/-
  The contract of the library's sort of texts, laid at this program.
-/
import Derived.Shelf.Sort.Plain
import Derived.Test.YtpkkdmopcfcnkaaProg
namespace Go.Proofs
open Go.Shelf
def Try.lays190_ren : Go.Shelf.Ren := ⟨fun | 190 => 148 | 125 => 150 | 258 => 149 | 128 => 160 | 129 => 161 | 302 => 151 | 303 => 152 | 304 => 153 | 305 => 154 | 306 => 155 | 307 => 156 | 308 => 157 | 309 => 158 | 310 => 159 | 333 => 162 | 329 => 163 | 330 => 164 | 334 => 165 | 335 => 166 | 336 => 167 | 344 => 168 | n => n, fun | 31 => 23 | 9 => 9 | 3 => 3 | 46 => 225 | 0 => 0 | 51 => 236 | 53 => 238 | 4 => 4 | 183 => 228 | 182 => 227 | 131 => 233 | 5 => 5 | 218 => 239 | 222 => 171 | 228 => 244 | 229 => 245 | n => n, fun | n => n⟩
theorem Try.lays190 : Go.Proofs.Lays.n190 Try.prog Try.lays190_ren := {
  mixed := by kernel_rfl
  f125 := Try.func150.trans (congrArg some (by kernel_rfl))
  f128 := Try.func160.trans (congrArg some (by kernel_rfl))
  f129 := Try.func161.trans (congrArg some (by kernel_rfl))
  f190 := Try.func148.trans (congrArg some (by kernel_rfl))
  f258 := Try.func149.trans (congrArg some (by kernel_rfl))
  f302 := Try.func151.trans (congrArg some (by kernel_rfl))
  f303 := Try.func152.trans (congrArg some (by kernel_rfl))
  f304 := Try.func153.trans (congrArg some (by kernel_rfl))
  f305 := Try.func154.trans (congrArg some (by kernel_rfl))
  f306 := Try.func155.trans (congrArg some (by kernel_rfl))
  f307 := Try.func156.trans (congrArg some (by kernel_rfl))
  f308 := Try.func157.trans (congrArg some (by kernel_rfl))
  f309 := Try.func158.trans (congrArg some (by kernel_rfl))
  f310 := Try.func159.trans (congrArg some (by kernel_rfl))
  f329 := Try.func163.trans (congrArg some (by kernel_rfl))
  f330 := Try.func164.trans (congrArg some (by kernel_rfl))
  f333 := Try.func162.trans (congrArg some (by kernel_rfl))
  f334 := Try.func165.trans (congrArg some (by kernel_rfl))
  f335 := Try.func166.trans (congrArg some (by kernel_rfl))
  f336 := Try.func167.trans (congrArg some (by kernel_rfl))
  f344 := Try.func168.trans (congrArg some (by kernel_rfl))
  t0 := Try.underlying0
  a0 := Try.isAgg0
  z0 := Try.sizeOf0
  v0 := Try.zeroValue0
  t3 := Try.underlying3
  a3 := Try.isAgg3
  z3 := Try.sizeOf3
  v3 := Try.zeroValue3
  t4 := Try.underlying4
  a4 := Try.isAgg4
  z4 := Try.sizeOf4
  v4 := Try.zeroValue4
  t5 := Try.underlying5
  a5 := Try.isAgg5
  z5 := Try.sizeOf5
  v5 := Try.zeroValue5
  t9 := Try.underlying9
  a9 := Try.isAgg9
  z9 := Try.sizeOf9
  v9 := Try.zeroValue9
  t31 := Try.underlying23
  a31 := Try.isAgg23
  z31 := Try.sizeOf23
  v31 := Try.zeroValue23
  t46 := Try.underlying225
  a46 := Try.isAgg225
  z46 := Try.sizeOf225
  v46 := Try.zeroValue225
  t51 := Try.underlying236
  a51 := Try.isAgg236
  z51 := Try.sizeOf236
  v51 := Try.zeroValue236
  t53 := Try.underlying238
  a53 := Try.isAgg238
  z53 := Try.sizeOf238
  v53 := Try.zeroValue238
  t131 := Try.underlying233
  a131 := Try.isAgg233
  z131 := Try.sizeOf233
  v131 := Try.zeroValue233
  t182 := Try.underlying227
  a182 := Try.isAgg227
  z182 := Try.sizeOf227
  v182 := Try.zeroValue227
  t183 := Try.underlying228
  a183 := Try.isAgg228
  z183 := Try.sizeOf228
  v183 := Try.zeroValue228
  t218 := Try.underlying239
  a218 := Try.isAgg239
  z218 := Try.sizeOf239
  v218 := Try.zeroValue239
  t222 := Try.underlying171
  a222 := Try.isAgg171
  z222 := Try.sizeOf171
  v222 := Try.zeroValue171
  t228 := Try.underlying244
  a228 := Try.isAgg244
  z228 := Try.sizeOf244
  v228 := Try.zeroValue244
  t229 := Try.underlying245
  a229 := Try.isAgg245
  z229 := Try.sizeOf245
  v229 := Try.zeroValue245 }
open Go.Sort Go.RowKit in
theorem Try.slices_Sort_string (blk off cap : Nat) (ss : List (List UInt8)) (w : World) (hH : Holds encStr w blk off ss.toArray) (hblk : blk < w.heap.size) (hsz : ss.length < 4611686018427387904) :
    Calls Try.prog 148 #[.slice (some ⟨blk, off, none⟩) ss.length cap] w fun e w' =>
      e = .returned (.tuple #[]) ∧ ∃ n os, w' = grow (putRow encStr (Sort.ahead w n) blk off (ss.mergeSort fun x y => decide (x ≤ y)).toArray) os := Any.slices_Sort_string Try.lays190 blk off cap ss w hH hblk hsz
end Go.Proofs
