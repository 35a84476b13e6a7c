/- The shelf's contract of sort.Strings at this dump (laid by the shelf's program, split off by hand). -/
import Derived.Shelf.Sort.Plain
import Derived.Test.YtcepdjlknalmnaaGreatDoorProg
namespace Go.Proofs
open Go.Shelf
def Tryz.lays192_ren : Go.Shelf.Ren := ⟨fun | 192 => 137 | 190 => 150 | 125 => 168 | 258 => 167 | 128 => 192 | 129 => 179 | 302 => 183 | 303 => 184 | 304 => 185 | 305 => 186 | 306 => 187 | 307 => 188 | 308 => 189 | 309 => 190 | 310 => 191 | 333 => 205 | 329 => 206 | 330 => 207 | 334 => 208 | 335 => 209 | 336 => 210 | 344 => 215 | n => n, fun | 31 => 25 | 0 => 0 | 9 => 9 | 3 => 3 | 46 => 258 | 51 => 259 | 53 => 22 | 4 => 4 | 183 => 285 | 182 => 284 | 131 => 289 | 5 => 5 | 218 => 304 | 222 => 200 | 228 => 317 | 229 => 318 | n => n, fun | n => n⟩
theorem Tryz.lays192 : Go.Proofs.Lays.n192 Tryz.prog Tryz.lays192_ren := {
  mixed := by kernel_rfl
  f125 := Tryz.func168.trans (congrArg some (by kernel_rfl))
  f128 := Tryz.func192.trans (congrArg some (by kernel_rfl))
  f129 := Tryz.func179.trans (congrArg some (by kernel_rfl))
  f190 := Tryz.func150.trans (congrArg some (by kernel_rfl))
  f192 := Tryz.func137.trans (congrArg some (by kernel_rfl))
  f258 := Tryz.func167.trans (congrArg some (by kernel_rfl))
  f302 := Tryz.func183.trans (congrArg some (by kernel_rfl))
  f303 := Tryz.func184.trans (congrArg some (by kernel_rfl))
  f304 := Tryz.func185.trans (congrArg some (by kernel_rfl))
  f305 := Tryz.func186.trans (congrArg some (by kernel_rfl))
  f306 := Tryz.func187.trans (congrArg some (by kernel_rfl))
  f307 := Tryz.func188.trans (congrArg some (by kernel_rfl))
  f308 := Tryz.func189.trans (congrArg some (by kernel_rfl))
  f309 := Tryz.func190.trans (congrArg some (by kernel_rfl))
  f310 := Tryz.func191.trans (congrArg some (by kernel_rfl))
  f329 := Tryz.func206.trans (congrArg some (by kernel_rfl))
  f330 := Tryz.func207.trans (congrArg some (by kernel_rfl))
  f333 := Tryz.func205.trans (congrArg some (by kernel_rfl))
  f334 := Tryz.func208.trans (congrArg some (by kernel_rfl))
  f335 := Tryz.func209.trans (congrArg some (by kernel_rfl))
  f336 := Tryz.func210.trans (congrArg some (by kernel_rfl))
  f344 := Tryz.func215.trans (congrArg some (by kernel_rfl))
  t0 := Tryz.underlying0
  a0 := Tryz.isAgg0
  z0 := Tryz.sizeOf0
  v0 := Tryz.zeroValue0
  t3 := Tryz.underlying3
  a3 := Tryz.isAgg3
  z3 := Tryz.sizeOf3
  v3 := Tryz.zeroValue3
  t4 := Tryz.underlying4
  a4 := Tryz.isAgg4
  z4 := Tryz.sizeOf4
  v4 := Tryz.zeroValue4
  t5 := Tryz.underlying5
  a5 := Tryz.isAgg5
  z5 := Tryz.sizeOf5
  v5 := Tryz.zeroValue5
  t9 := Tryz.underlying9
  a9 := Tryz.isAgg9
  z9 := Tryz.sizeOf9
  v9 := Tryz.zeroValue9
  t31 := Tryz.underlying25
  a31 := Tryz.isAgg25
  z31 := Tryz.sizeOf25
  v31 := Tryz.zeroValue25
  t46 := Tryz.underlying258
  a46 := Tryz.isAgg258
  z46 := Tryz.sizeOf258
  v46 := Tryz.zeroValue258
  t51 := Tryz.underlying259
  a51 := Tryz.isAgg259
  z51 := Tryz.sizeOf259
  v51 := Tryz.zeroValue259
  t53 := Tryz.underlying22
  a53 := Tryz.isAgg22
  z53 := Tryz.sizeOf22
  v53 := Tryz.zeroValue22
  t131 := Tryz.underlying289
  a131 := Tryz.isAgg289
  z131 := Tryz.sizeOf289
  v131 := Tryz.zeroValue289
  t182 := Tryz.underlying284
  a182 := Tryz.isAgg284
  z182 := Tryz.sizeOf284
  v182 := Tryz.zeroValue284
  t183 := Tryz.underlying285
  a183 := Tryz.isAgg285
  z183 := Tryz.sizeOf285
  v183 := Tryz.zeroValue285
  t218 := Tryz.underlying304
  a218 := Tryz.isAgg304
  z218 := Tryz.sizeOf304
  v218 := Tryz.zeroValue304
  t222 := Tryz.underlying200
  a222 := Tryz.isAgg200
  z222 := Tryz.sizeOf200
  v222 := Tryz.zeroValue200
  t228 := Tryz.underlying317
  a228 := Tryz.isAgg317
  z228 := Tryz.sizeOf317
  v228 := Tryz.zeroValue317
  t229 := Tryz.underlying318
  a229 := Tryz.isAgg318
  z229 := Tryz.sizeOf318
  v229 := Tryz.zeroValue318 }
open Go.Sort Go.RowKit in
theorem Tryz.sort_Strings (blk off cap : Nat) (ss : List (List UInt8)) (w : World) (hH : Holds encStr w blk off ss.toArray) (hblk : blk < w.heap.size) (hsz : ss.length < 4611686018427387904) :
    Calls Tryz.prog 137 #[.slice (some ⟨blk, off, none⟩) ss.length cap] w fun e w' =>
      e = .returned (.tuple #[]) ∧ ∃ n os, w' = grow (putRow encStr (Sort.ahead w n) blk off (ss.mergeSort fun x y => decide (x ≤ y)).toArray) os := Any.sort_Strings Tryz.lays192 blk off cap ss w hH hblk hsz
end Go.Proofs
