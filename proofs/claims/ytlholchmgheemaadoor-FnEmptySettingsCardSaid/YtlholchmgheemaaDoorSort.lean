import Derived.Test.YtlholchmgheemaaDoorProg
import Derived.WalkKit
import Derived.Shelf.Lays
import Derived.Shelf.Sort.Plain
namespace Go.Proofs.YtlholchmgheemaaDoor
set_option linter.unusedVariables false
set_option linter.unusedSimpArgs false
open Go.RowKit Go.Shelf Go.Sort

def laysSort_ren : Go.Shelf.Ren := ⟨fun | 190 => 34 | 125 => 48 | 258 => 47 | 128 => 62 | 129 => 63 | 302 => 53 | 303 => 54 | 304 => 55 | 305 => 56 | 306 => 57 | 307 => 58 | 308 => 59 | 309 => 60 | 310 => 61 | 333 => 68 | 329 => 69 | 330 => 70 | 334 => 71 | 335 => 72 | 336 => 73 | 344 => 75 | n => n, fun | 31 => 38 | 9 => 9 | 3 => 3 | 46 => 89 | 0 => 0 | 51 => 106 | 53 => 108 | 4 => 4 | 183 => 99 | 182 => 98 | 131 => 103 | 5 => 5 | 218 => 116 | 222 => 120 | 228 => 122 | 229 => 123 | n => n, fun n => n⟩
theorem laysSort : Lays.n190 Tryd.prog laysSort_ren where
  mixed := by kernel_rfl
  f125 := Tryd.func48.trans (congrArg some (by kernel_rfl))
  f128 := Tryd.func62.trans (congrArg some (by kernel_rfl))
  f129 := Tryd.func63.trans (congrArg some (by kernel_rfl))
  f190 := Tryd.func34.trans (congrArg some (by kernel_rfl))
  f258 := Tryd.func47.trans (congrArg some (by kernel_rfl))
  f302 := Tryd.func53.trans (congrArg some (by kernel_rfl))
  f303 := Tryd.func54.trans (congrArg some (by kernel_rfl))
  f304 := Tryd.func55.trans (congrArg some (by kernel_rfl))
  f305 := Tryd.func56.trans (congrArg some (by kernel_rfl))
  f306 := Tryd.func57.trans (congrArg some (by kernel_rfl))
  f307 := Tryd.func58.trans (congrArg some (by kernel_rfl))
  f308 := Tryd.func59.trans (congrArg some (by kernel_rfl))
  f309 := Tryd.func60.trans (congrArg some (by kernel_rfl))
  f310 := Tryd.func61.trans (congrArg some (by kernel_rfl))
  f329 := Tryd.func69.trans (congrArg some (by kernel_rfl))
  f330 := Tryd.func70.trans (congrArg some (by kernel_rfl))
  f333 := Tryd.func68.trans (congrArg some (by kernel_rfl))
  f334 := Tryd.func71.trans (congrArg some (by kernel_rfl))
  f335 := Tryd.func72.trans (congrArg some (by kernel_rfl))
  f336 := Tryd.func73.trans (congrArg some (by kernel_rfl))
  f344 := Tryd.func75.trans (congrArg some (by kernel_rfl))
  t0 := Tryd.underlying0
  a0 := Tryd.isAgg0
  z0 := Tryd.sizeOf0
  v0 := Tryd.zeroValue0
  t3 := Tryd.underlying3
  a3 := Tryd.isAgg3
  z3 := Tryd.sizeOf3
  v3 := Tryd.zeroValue3
  t4 := Tryd.underlying4
  a4 := Tryd.isAgg4
  z4 := Tryd.sizeOf4
  v4 := Tryd.zeroValue4
  t5 := Tryd.underlying5
  a5 := Tryd.isAgg5
  z5 := Tryd.sizeOf5
  v5 := Tryd.zeroValue5
  t9 := Tryd.underlying9
  a9 := Tryd.isAgg9
  z9 := Tryd.sizeOf9
  v9 := Tryd.zeroValue9
  t31 := Tryd.underlying38
  a31 := Tryd.isAgg38
  z31 := Tryd.sizeOf38
  v31 := Tryd.zeroValue38
  t46 := Tryd.underlying89
  a46 := Tryd.isAgg89
  z46 := Tryd.sizeOf89
  v46 := Tryd.zeroValue89
  t51 := Tryd.underlying106
  a51 := Tryd.isAgg106
  z51 := Tryd.sizeOf106
  v51 := Tryd.zeroValue106
  t53 := Tryd.underlying108
  a53 := Tryd.isAgg108
  z53 := Tryd.sizeOf108
  v53 := Tryd.zeroValue108
  t131 := Tryd.underlying103
  a131 := Tryd.isAgg103
  z131 := Tryd.sizeOf103
  v131 := Tryd.zeroValue103
  t182 := Tryd.underlying98
  a182 := Tryd.isAgg98
  z182 := Tryd.sizeOf98
  v182 := Tryd.zeroValue98
  t183 := Tryd.underlying99
  a183 := Tryd.isAgg99
  z183 := Tryd.sizeOf99
  v183 := Tryd.zeroValue99
  t218 := Tryd.underlying116
  a218 := Tryd.isAgg116
  z218 := Tryd.sizeOf116
  v218 := Tryd.zeroValue116
  t222 := Tryd.underlying120
  a222 := Tryd.isAgg120
  z222 := Tryd.sizeOf120
  v222 := Tryd.zeroValue120
  t228 := Tryd.underlying122
  a228 := Tryd.isAgg122
  z228 := Tryd.sizeOf122
  v228 := Tryd.zeroValue122
  t229 := Tryd.underlying123
  a229 := Tryd.isAgg123
  z229 := Tryd.sizeOf123
  v229 := Tryd.zeroValue123
theorem sort_strings (blk off cap : Nat) (ss : List (List UInt8)) (w : World) (hH : Holds encStr w blk off ss.toArray) (hblk : blk < w.heap.size) (hsz : ss.length < 4611686018427387904) :
    Calls Tryd.prog 34 #[.slice (some ⟨blk, off, none⟩) ss.length cap] w fun e w' =>
      e = .returned (.tuple #[]) ∧ ∃ n os, w' = grow (putRow encStr (Sort.ahead w n) blk off (ss.mergeSort fun x y => decide (x ≤ y)).toArray) os :=
  Any.slices_Sort_string laysSort blk off cap ss w hH hblk hsz
end Go.Proofs.YtlholchmgheemaaDoor
