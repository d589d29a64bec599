/-
 The contract of slices.Sort at strings, laid at this program (written by the kit tool lay-plain).
-/
import Derived.Shelf.Sort.Plain
import Derived.Test.YtplljfbbipeakaaDoorProg
namespace Go.Proofs
open Go.Shelf
def Tryd.lays190_ren : Go.Shelf.Ren := ⟨fun | 190 => 29 | 125 => 44 | 258 => 43 | 128 => 60 | 129 => 61 | 302 => 51 | 303 => 52 | 304 => 53 | 305 => 54 | 306 => 55 | 307 => 56 | 308 => 57 | 309 => 58 | 310 => 59 | 333 => 74 | 329 => 75 | 330 => 76 | 334 => 77 | 335 => 78 | 336 => 79 | 344 => 86 | n => n, fun | 31 => 22 | 9 => 9 | 3 => 3 | 46 => 71 | 0 => 0 | 51 => 101 | 53 => 103 | 4 => 4 | 183 => 93 | 182 => 92 | 131 => 98 | 5 => 5 | 218 => 119 | 222 => 123 | 228 => 131 | 229 => 132 | n => n, fun | n => n⟩
theorem Tryd.lays190 : Go.Proofs.Lays.n190 Tryd.prog Tryd.lays190_ren := {
  mixed := by kernel_rfl
  f125 := Tryd.func44.trans (congrArg some (by kernel_rfl))
  f128 := Tryd.func60.trans (congrArg some (by kernel_rfl))
  f129 := Tryd.func61.trans (congrArg some (by kernel_rfl))
  f190 := Tryd.func29.trans (congrArg some (by kernel_rfl))
  f258 := Tryd.func43.trans (congrArg some (by kernel_rfl))
  f302 := Tryd.func51.trans (congrArg some (by kernel_rfl))
  f303 := Tryd.func52.trans (congrArg some (by kernel_rfl))
  f304 := Tryd.func53.trans (congrArg some (by kernel_rfl))
  f305 := Tryd.func54.trans (congrArg some (by kernel_rfl))
  f306 := Tryd.func55.trans (congrArg some (by kernel_rfl))
  f307 := Tryd.func56.trans (congrArg some (by kernel_rfl))
  f308 := Tryd.func57.trans (congrArg some (by kernel_rfl))
  f309 := Tryd.func58.trans (congrArg some (by kernel_rfl))
  f310 := Tryd.func59.trans (congrArg some (by kernel_rfl))
  f329 := Tryd.func75.trans (congrArg some (by kernel_rfl))
  f330 := Tryd.func76.trans (congrArg some (by kernel_rfl))
  f333 := Tryd.func74.trans (congrArg some (by kernel_rfl))
  f334 := Tryd.func77.trans (congrArg some (by kernel_rfl))
  f335 := Tryd.func78.trans (congrArg some (by kernel_rfl))
  f336 := Tryd.func79.trans (congrArg some (by kernel_rfl))
  f344 := Tryd.func86.trans (congrArg some (by kernel_rfl))
  t0 := Tryd.underlying0
  a0 := Tryd.isAgg0
  z0 := Tryd.sizeOf0
  v0 := Tryd.zeroValue0
  t3 := Tryd.underlying3
  a3 := Tryd.isAgg3
  z3 := Tryd.sizeOf3
  v3 := Tryd.zeroValue3
  t4 := Tryd.underlying4
  a4 := Tryd.isAgg4
  z4 := Tryd.sizeOf4
  v4 := Tryd.zeroValue4
  t5 := Tryd.underlying5
  a5 := Tryd.isAgg5
  z5 := Tryd.sizeOf5
  v5 := Tryd.zeroValue5
  t9 := Tryd.underlying9
  a9 := Tryd.isAgg9
  z9 := Tryd.sizeOf9
  v9 := Tryd.zeroValue9
  t31 := Tryd.underlying22
  a31 := Tryd.isAgg22
  z31 := Tryd.sizeOf22
  v31 := Tryd.zeroValue22
  t46 := Tryd.underlying71
  a46 := Tryd.isAgg71
  z46 := Tryd.sizeOf71
  v46 := Tryd.zeroValue71
  t51 := Tryd.underlying101
  a51 := Tryd.isAgg101
  z51 := Tryd.sizeOf101
  v51 := Tryd.zeroValue101
  t53 := Tryd.underlying103
  a53 := Tryd.isAgg103
  z53 := Tryd.sizeOf103
  v53 := Tryd.zeroValue103
  t131 := Tryd.underlying98
  a131 := Tryd.isAgg98
  z131 := Tryd.sizeOf98
  v131 := Tryd.zeroValue98
  t182 := Tryd.underlying92
  a182 := Tryd.isAgg92
  z182 := Tryd.sizeOf92
  v182 := Tryd.zeroValue92
  t183 := Tryd.underlying93
  a183 := Tryd.isAgg93
  z183 := Tryd.sizeOf93
  v183 := Tryd.zeroValue93
  t218 := Tryd.underlying119
  a218 := Tryd.isAgg119
  z218 := Tryd.sizeOf119
  v218 := Tryd.zeroValue119
  t222 := Tryd.underlying123
  a222 := Tryd.isAgg123
  z222 := Tryd.sizeOf123
  v222 := Tryd.zeroValue123
  t228 := Tryd.underlying131
  a228 := Tryd.isAgg131
  z228 := Tryd.sizeOf131
  v228 := Tryd.zeroValue131
  t229 := Tryd.underlying132
  a229 := Tryd.isAgg132
  z229 := Tryd.sizeOf132
  v229 := Tryd.zeroValue132 }
open Go.Sort Go.RowKit in
theorem Tryd.slices_Sort_string (blk off cap : Nat) (ss : List (List UInt8)) (w : World) (hH : Holds encStr w blk off ss.toArray) (hblk : blk < w.heap.size) (hsz : ss.length < 4611686018427387904) :
    Calls Tryd.prog 29 #[.slice (some ⟨blk, off, none⟩) ss.length cap] w fun e w' =>
      e = .returned (.tuple #[]) ∧ ∃ n os, w' = grow (putRow encStr (Sort.ahead w n) blk off (ss.mergeSort fun x y => decide (x ≤ y)).toArray) os := Any.slices_Sort_string Tryd.lays190 blk off cap ss w hH hblk hsz
end Go.Proofs
