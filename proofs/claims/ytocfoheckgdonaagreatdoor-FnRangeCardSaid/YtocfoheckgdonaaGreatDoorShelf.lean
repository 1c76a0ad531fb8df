/-
  The contract of the library's sort of texts, laid at this program.
-/
import Derived.Shelf.Sort.Plain
import Derived.Test.YtocfoheckgdonaaGreatDoorProg
namespace Go.Proofs
open Go.Shelf
def Tryz.lays190_ren : Go.Shelf.Ren := ⟨fun | 190 => 144 | 125 => 152 | 258 => 151 | 128 => 169 | 129 => 170 | 302 => 160 | 303 => 161 | 304 => 162 | 305 => 163 | 306 => 164 | 307 => 165 | 308 => 166 | 309 => 167 | 310 => 168 | 333 => 176 | 329 => 177 | 330 => 178 | 334 => 179 | 335 => 180 | 336 => 181 | 344 => 185 | n => n, fun | 31 => 23 | 9 => 9 | 3 => 3 | 46 => 181 | 0 => 0 | 51 => 198 | 53 => 200 | 4 => 4 | 183 => 191 | 182 => 190 | 131 => 195 | 5 => 5 | 218 => 208 | 222 => 118 | 228 => 220 | 229 => 221 | n => n, fun | n => n⟩
theorem Tryz.lays190 : Go.Proofs.Lays.n190 Tryz.prog Tryz.lays190_ren := {
  mixed := by kernel_rfl
  f125 := Tryz.func152.trans (congrArg some (by kernel_rfl))
  f128 := Tryz.func169.trans (congrArg some (by kernel_rfl))
  f129 := Tryz.func170.trans (congrArg some (by kernel_rfl))
  f190 := Tryz.func144.trans (congrArg some (by kernel_rfl))
  f258 := Tryz.func151.trans (congrArg some (by kernel_rfl))
  f302 := Tryz.func160.trans (congrArg some (by kernel_rfl))
  f303 := Tryz.func161.trans (congrArg some (by kernel_rfl))
  f304 := Tryz.func162.trans (congrArg some (by kernel_rfl))
  f305 := Tryz.func163.trans (congrArg some (by kernel_rfl))
  f306 := Tryz.func164.trans (congrArg some (by kernel_rfl))
  f307 := Tryz.func165.trans (congrArg some (by kernel_rfl))
  f308 := Tryz.func166.trans (congrArg some (by kernel_rfl))
  f309 := Tryz.func167.trans (congrArg some (by kernel_rfl))
  f310 := Tryz.func168.trans (congrArg some (by kernel_rfl))
  f329 := Tryz.func177.trans (congrArg some (by kernel_rfl))
  f330 := Tryz.func178.trans (congrArg some (by kernel_rfl))
  f333 := Tryz.func176.trans (congrArg some (by kernel_rfl))
  f334 := Tryz.func179.trans (congrArg some (by kernel_rfl))
  f335 := Tryz.func180.trans (congrArg some (by kernel_rfl))
  f336 := Tryz.func181.trans (congrArg some (by kernel_rfl))
  f344 := Tryz.func185.trans (congrArg some (by kernel_rfl))
  t0 := Tryz.underlying0
  a0 := Tryz.isAgg0
  z0 := Tryz.sizeOf0
  v0 := Tryz.zeroValue0
  t3 := Tryz.underlying3
  a3 := Tryz.isAgg3
  z3 := Tryz.sizeOf3
  v3 := Tryz.zeroValue3
  t4 := Tryz.underlying4
  a4 := Tryz.isAgg4
  z4 := Tryz.sizeOf4
  v4 := Tryz.zeroValue4
  t5 := Tryz.underlying5
  a5 := Tryz.isAgg5
  z5 := Tryz.sizeOf5
  v5 := Tryz.zeroValue5
  t9 := Tryz.underlying9
  a9 := Tryz.isAgg9
  z9 := Tryz.sizeOf9
  v9 := Tryz.zeroValue9
  t31 := Tryz.underlying23
  a31 := Tryz.isAgg23
  z31 := Tryz.sizeOf23
  v31 := Tryz.zeroValue23
  t46 := Tryz.underlying181
  a46 := Tryz.isAgg181
  z46 := Tryz.sizeOf181
  v46 := Tryz.zeroValue181
  t51 := Tryz.underlying198
  a51 := Tryz.isAgg198
  z51 := Tryz.sizeOf198
  v51 := Tryz.zeroValue198
  t53 := Tryz.underlying200
  a53 := Tryz.isAgg200
  z53 := Tryz.sizeOf200
  v53 := Tryz.zeroValue200
  t131 := Tryz.underlying195
  a131 := Tryz.isAgg195
  z131 := Tryz.sizeOf195
  v131 := Tryz.zeroValue195
  t182 := Tryz.underlying190
  a182 := Tryz.isAgg190
  z182 := Tryz.sizeOf190
  v182 := Tryz.zeroValue190
  t183 := Tryz.underlying191
  a183 := Tryz.isAgg191
  z183 := Tryz.sizeOf191
  v183 := Tryz.zeroValue191
  t218 := Tryz.underlying208
  a218 := Tryz.isAgg208
  z218 := Tryz.sizeOf208
  v218 := Tryz.zeroValue208
  t222 := Tryz.underlying118
  a222 := Tryz.isAgg118
  z222 := Tryz.sizeOf118
  v222 := Tryz.zeroValue118
  t228 := Tryz.underlying220
  a228 := Tryz.isAgg220
  z228 := Tryz.sizeOf220
  v228 := Tryz.zeroValue220
  t229 := Tryz.underlying221
  a229 := Tryz.isAgg221
  z229 := Tryz.sizeOf221
  v229 := Tryz.zeroValue221 }
open Go.Sort Go.RowKit in
theorem Tryz.slices_Sort_string (blk off cap : Nat) (ss : List (List UInt8)) (w : World) (hH : Holds encStr w blk off ss.toArray) (hblk : blk < w.heap.size) (hsz : ss.length < 4611686018427387904) :
    Calls Tryz.prog 144 #[.slice (some ⟨blk, off, none⟩) ss.length cap] w fun e w' =>
      e = .returned (.tuple #[]) ∧ ∃ n os, w' = grow (putRow encStr (Sort.ahead w n) blk off (ss.mergeSort fun x y => decide (x ≤ y)).toArray) os := Any.slices_Sort_string Tryz.lays190 blk off cap ss w hH hblk hsz
end Go.Proofs
