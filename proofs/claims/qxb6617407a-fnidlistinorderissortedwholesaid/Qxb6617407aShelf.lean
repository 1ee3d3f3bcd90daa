/-
  THE SHELF's CONTRACT OF slices.Sort at []string, laid at this seat's dump: written by the kit's own tools (lay-shelf.mjs, lay-plain.mjs) for this program; the names turned into this seat's namespace.
-/
import Derived.Shelf.Sort.Plain
import Derived.Test.Qxb6617407aProg
namespace Go.Proofs.Qxb6617407a.Shelf
open Go.Shelf
def lays190_ren : Go.Shelf.Ren := ⟨fun | 190 => 20 | 125 => 22 | 258 => 21 | 128 => 32 | 129 => 33 | 302 => 23 | 303 => 24 | 304 => 25 | 305 => 26 | 306 => 27 | 307 => 28 | 308 => 29 | 309 => 30 | 310 => 31 | 333 => 34 | 329 => 35 | 330 => 36 | 334 => 37 | 335 => 38 | 336 => 39 | 344 => 40 | n => n, fun | 31 => 28 | 9 => 9 | 3 => 3 | 46 => 43 | 0 => 0 | 51 => 57 | 53 => 22 | 4 => 4 | 183 => 49 | 182 => 48 | 131 => 54 | 5 => 5 | 218 => 59 | 222 => 63 | 228 => 66 | 229 => 67 | n => n, fun | n => n⟩
theorem lays190 : Go.Proofs.Lays.n190 Try.prog lays190_ren := {
  mixed := by kernel_rfl
  f125 := Try.func22.trans (congrArg some (by kernel_rfl))
  f128 := Try.func32.trans (congrArg some (by kernel_rfl))
  f129 := Try.func33.trans (congrArg some (by kernel_rfl))
  f190 := Try.func20.trans (congrArg some (by kernel_rfl))
  f258 := Try.func21.trans (congrArg some (by kernel_rfl))
  f302 := Try.func23.trans (congrArg some (by kernel_rfl))
  f303 := Try.func24.trans (congrArg some (by kernel_rfl))
  f304 := Try.func25.trans (congrArg some (by kernel_rfl))
  f305 := Try.func26.trans (congrArg some (by kernel_rfl))
  f306 := Try.func27.trans (congrArg some (by kernel_rfl))
  f307 := Try.func28.trans (congrArg some (by kernel_rfl))
  f308 := Try.func29.trans (congrArg some (by kernel_rfl))
  f309 := Try.func30.trans (congrArg some (by kernel_rfl))
  f310 := Try.func31.trans (congrArg some (by kernel_rfl))
  f329 := Try.func35.trans (congrArg some (by kernel_rfl))
  f330 := Try.func36.trans (congrArg some (by kernel_rfl))
  f333 := Try.func34.trans (congrArg some (by kernel_rfl))
  f334 := Try.func37.trans (congrArg some (by kernel_rfl))
  f335 := Try.func38.trans (congrArg some (by kernel_rfl))
  f336 := Try.func39.trans (congrArg some (by kernel_rfl))
  f344 := Try.func40.trans (congrArg some (by kernel_rfl))
  t0 := Try.underlying0
  a0 := Try.isAgg0
  z0 := Try.sizeOf0
  v0 := Try.zeroValue0
  t3 := Try.underlying3
  a3 := Try.isAgg3
  z3 := Try.sizeOf3
  v3 := Try.zeroValue3
  t4 := Try.underlying4
  a4 := Try.isAgg4
  z4 := Try.sizeOf4
  v4 := Try.zeroValue4
  t5 := Try.underlying5
  a5 := Try.isAgg5
  z5 := Try.sizeOf5
  v5 := Try.zeroValue5
  t9 := Try.underlying9
  a9 := Try.isAgg9
  z9 := Try.sizeOf9
  v9 := Try.zeroValue9
  t31 := Try.underlying28
  a31 := Try.isAgg28
  z31 := Try.sizeOf28
  v31 := Try.zeroValue28
  t46 := Try.underlying43
  a46 := Try.isAgg43
  z46 := Try.sizeOf43
  v46 := Try.zeroValue43
  t51 := Try.underlying57
  a51 := Try.isAgg57
  z51 := Try.sizeOf57
  v51 := Try.zeroValue57
  t53 := Try.underlying22
  a53 := Try.isAgg22
  z53 := Try.sizeOf22
  v53 := Try.zeroValue22
  t131 := Try.underlying54
  a131 := Try.isAgg54
  z131 := Try.sizeOf54
  v131 := Try.zeroValue54
  t182 := Try.underlying48
  a182 := Try.isAgg48
  z182 := Try.sizeOf48
  v182 := Try.zeroValue48
  t183 := Try.underlying49
  a183 := Try.isAgg49
  z183 := Try.sizeOf49
  v183 := Try.zeroValue49
  t218 := Try.underlying59
  a218 := Try.isAgg59
  z218 := Try.sizeOf59
  v218 := Try.zeroValue59
  t222 := Try.underlying63
  a222 := Try.isAgg63
  z222 := Try.sizeOf63
  v222 := Try.zeroValue63
  t228 := Try.underlying66
  a228 := Try.isAgg66
  z228 := Try.sizeOf66
  v228 := Try.zeroValue66
  t229 := Try.underlying67
  a229 := Try.isAgg67
  z229 := Try.sizeOf67
  v229 := Try.zeroValue67 }
open Go.Sort Go.RowKit in
theorem slices_Sort_string (blk off cap : Nat) (ss : List (List UInt8)) (w : World) (hH : Holds encStr w blk off ss.toArray) (hblk : blk < w.heap.size) (hsz : ss.length < 4611686018427387904) :
    Calls Try.prog 20 #[.slice (some ⟨blk, off, none⟩) ss.length cap] w fun e w' =>
      e = .returned (.tuple #[]) ∧ ∃ n os, w' = grow (putRow encStr (Sort.ahead w n) blk off (ss.mergeSort fun x y => decide (x ≤ y)).toArray) os := Any.slices_Sort_string lays190 blk off cap ss w hH hblk hsz
end Go.Proofs.Qxb6617407a.Shelf
