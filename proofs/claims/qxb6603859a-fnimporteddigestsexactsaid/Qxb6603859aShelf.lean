import Derived.Shelf.Sort.Plain
import Derived.Test.Qxb6603859aProg
namespace Go.Proofs
open Go.Shelf
def Try.lays190_ren : Go.Shelf.Ren := ⟨fun | 190 => 13 | 125 => 16 | 258 => 15 | 128 => 26 | 129 => 27 | 302 => 17 | 303 => 18 | 304 => 19 | 305 => 20 | 306 => 21 | 307 => 22 | 308 => 23 | 309 => 24 | 310 => 25 | 333 => 28 | 329 => 29 | 330 => 30 | 334 => 31 | 335 => 32 | 336 => 33 | 344 => 34 | n => n, fun | 31 => 25 | 9 => 9 | 3 => 3 | 46 => 46 | 0 => 0 | 51 => 56 | 53 => 58 | 4 => 4 | 183 => 49 | 182 => 48 | 131 => 53 | 5 => 5 | 218 => 59 | 222 => 63 | 228 => 66 | 229 => 67 | n => n, fun | n => n⟩
theorem Try.lays190 : Go.Proofs.Lays.n190 Try.prog Try.lays190_ren := {
  mixed := by kernel_rfl
  f125 := Try.func16.trans (congrArg some (by kernel_rfl))
  f128 := Try.func26.trans (congrArg some (by kernel_rfl))
  f129 := Try.func27.trans (congrArg some (by kernel_rfl))
  f190 := Try.func13.trans (congrArg some (by kernel_rfl))
  f258 := Try.func15.trans (congrArg some (by kernel_rfl))
  f302 := Try.func17.trans (congrArg some (by kernel_rfl))
  f303 := Try.func18.trans (congrArg some (by kernel_rfl))
  f304 := Try.func19.trans (congrArg some (by kernel_rfl))
  f305 := Try.func20.trans (congrArg some (by kernel_rfl))
  f306 := Try.func21.trans (congrArg some (by kernel_rfl))
  f307 := Try.func22.trans (congrArg some (by kernel_rfl))
  f308 := Try.func23.trans (congrArg some (by kernel_rfl))
  f309 := Try.func24.trans (congrArg some (by kernel_rfl))
  f310 := Try.func25.trans (congrArg some (by kernel_rfl))
  f329 := Try.func29.trans (congrArg some (by kernel_rfl))
  f330 := Try.func30.trans (congrArg some (by kernel_rfl))
  f333 := Try.func28.trans (congrArg some (by kernel_rfl))
  f334 := Try.func31.trans (congrArg some (by kernel_rfl))
  f335 := Try.func32.trans (congrArg some (by kernel_rfl))
  f336 := Try.func33.trans (congrArg some (by kernel_rfl))
  f344 := Try.func34.trans (congrArg some (by kernel_rfl))
  t0 := Try.underlying0
  a0 := Try.isAgg0
  z0 := Try.sizeOf0
  v0 := Try.zeroValue0
  t3 := Try.underlying3
  a3 := Try.isAgg3
  z3 := Try.sizeOf3
  v3 := Try.zeroValue3
  t4 := Try.underlying4
  a4 := Try.isAgg4
  z4 := Try.sizeOf4
  v4 := Try.zeroValue4
  t5 := Try.underlying5
  a5 := Try.isAgg5
  z5 := Try.sizeOf5
  v5 := Try.zeroValue5
  t9 := Try.underlying9
  a9 := Try.isAgg9
  z9 := Try.sizeOf9
  v9 := Try.zeroValue9
  t31 := Try.underlying25
  a31 := Try.isAgg25
  z31 := Try.sizeOf25
  v31 := Try.zeroValue25
  t46 := Try.underlying46
  a46 := Try.isAgg46
  z46 := Try.sizeOf46
  v46 := Try.zeroValue46
  t51 := Try.underlying56
  a51 := Try.isAgg56
  z51 := Try.sizeOf56
  v51 := Try.zeroValue56
  t53 := Try.underlying58
  a53 := Try.isAgg58
  z53 := Try.sizeOf58
  v53 := Try.zeroValue58
  t131 := Try.underlying53
  a131 := Try.isAgg53
  z131 := Try.sizeOf53
  v131 := Try.zeroValue53
  t182 := Try.underlying48
  a182 := Try.isAgg48
  z182 := Try.sizeOf48
  v182 := Try.zeroValue48
  t183 := Try.underlying49
  a183 := Try.isAgg49
  z183 := Try.sizeOf49
  v183 := Try.zeroValue49
  t218 := Try.underlying59
  a218 := Try.isAgg59
  z218 := Try.sizeOf59
  v218 := Try.zeroValue59
  t222 := Try.underlying63
  a222 := Try.isAgg63
  z222 := Try.sizeOf63
  v222 := Try.zeroValue63
  t228 := Try.underlying66
  a228 := Try.isAgg66
  z228 := Try.sizeOf66
  v228 := Try.zeroValue66
  t229 := Try.underlying67
  a229 := Try.isAgg67
  z229 := Try.sizeOf67
  v229 := Try.zeroValue67 }
open Go.Sort Go.RowKit in
theorem Try.slices_Sort_string (blk off cap : Nat) (ss : List (List UInt8)) (w : World) (hH : Holds encStr w blk off ss.toArray) (hblk : blk < w.heap.size) (hsz : ss.length < 4611686018427387904) :
    Calls Try.prog 13 #[.slice (some ⟨blk, off, none⟩) ss.length cap] w fun e w' =>
      e = .returned (.tuple #[]) ∧ ∃ n os, w' = grow (putRow encStr (Sort.ahead w n) blk off (ss.mergeSort fun x y => decide (x ≤ y)).toArray) os := Any.slices_Sort_string Try.lays190 blk off cap ss w hH hblk hsz
end Go.Proofs
