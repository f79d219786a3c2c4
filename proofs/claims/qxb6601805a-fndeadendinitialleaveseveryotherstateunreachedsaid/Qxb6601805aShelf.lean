/-
  DERIVED: THE SHELF's CONTRACTS AT THIS DUMP, IN PLAIN WORDS (tools/lay-plain.mjs out of 'Qxb6601805aShelf.lean', which tools/lay-shelf.mjs wrote): THE SAME DECLARATIONS UNDER THE SAME NAMES: 'import', 'namespace', 'open', 'def', 'theorem' AND NOTHING ELSE: no command of the shelf's: FOR A HAND-IN. Each laying: the table of numbers ('.._ren') and one theorem, a field a fact of the dump's own or the kernel's comparison; each contract: ONE APPLICATION.
-/
import Derived.Shelf.Sort.Plain
import Derived.Shelf.Slices.In.SortNone
import Derived.Test.Qxb6601805aProg
namespace Go.Proofs
open Go.Shelf
def Try.lays190_ren : Go.Shelf.Ren := ⟨fun | 190 => 25 | 125 => 27 | 258 => 26 | 128 => 37 | 129 => 38 | 302 => 28 | 303 => 29 | 304 => 30 | 305 => 31 | 306 => 32 | 307 => 33 | 308 => 34 | 309 => 35 | 310 => 36 | 333 => 39 | 329 => 40 | 330 => 41 | 334 => 42 | 335 => 43 | 336 => 44 | 344 => 45 | n => n, fun | 31 => 22 | 9 => 9 | 3 => 3 | 46 => 53 | 0 => 0 | 51 => 64 | 53 => 66 | 4 => 4 | 183 => 56 | 182 => 55 | 131 => 61 | 5 => 5 | 218 => 67 | 222 => 71 | 228 => 74 | 229 => 75 | n => n, fun | n => n⟩
theorem Try.lays190 : Go.Proofs.Lays.n190 Try.prog Try.lays190_ren := {
  mixed := by kernel_rfl
  f125 := Try.func27.trans (congrArg some (by kernel_rfl))
  f128 := Try.func37.trans (congrArg some (by kernel_rfl))
  f129 := Try.func38.trans (congrArg some (by kernel_rfl))
  f190 := Try.func25.trans (congrArg some (by kernel_rfl))
  f258 := Try.func26.trans (congrArg some (by kernel_rfl))
  f302 := Try.func28.trans (congrArg some (by kernel_rfl))
  f303 := Try.func29.trans (congrArg some (by kernel_rfl))
  f304 := Try.func30.trans (congrArg some (by kernel_rfl))
  f305 := Try.func31.trans (congrArg some (by kernel_rfl))
  f306 := Try.func32.trans (congrArg some (by kernel_rfl))
  f307 := Try.func33.trans (congrArg some (by kernel_rfl))
  f308 := Try.func34.trans (congrArg some (by kernel_rfl))
  f309 := Try.func35.trans (congrArg some (by kernel_rfl))
  f310 := Try.func36.trans (congrArg some (by kernel_rfl))
  f329 := Try.func40.trans (congrArg some (by kernel_rfl))
  f330 := Try.func41.trans (congrArg some (by kernel_rfl))
  f333 := Try.func39.trans (congrArg some (by kernel_rfl))
  f334 := Try.func42.trans (congrArg some (by kernel_rfl))
  f335 := Try.func43.trans (congrArg some (by kernel_rfl))
  f336 := Try.func44.trans (congrArg some (by kernel_rfl))
  f344 := Try.func45.trans (congrArg some (by kernel_rfl))
  t0 := Try.underlying0
  a0 := Try.isAgg0
  z0 := Try.sizeOf0
  v0 := Try.zeroValue0
  t3 := Try.underlying3
  a3 := Try.isAgg3
  z3 := Try.sizeOf3
  v3 := Try.zeroValue3
  t4 := Try.underlying4
  a4 := Try.isAgg4
  z4 := Try.sizeOf4
  v4 := Try.zeroValue4
  t5 := Try.underlying5
  a5 := Try.isAgg5
  z5 := Try.sizeOf5
  v5 := Try.zeroValue5
  t9 := Try.underlying9
  a9 := Try.isAgg9
  z9 := Try.sizeOf9
  v9 := Try.zeroValue9
  t31 := Try.underlying22
  a31 := Try.isAgg22
  z31 := Try.sizeOf22
  v31 := Try.zeroValue22
  t46 := Try.underlying53
  a46 := Try.isAgg53
  z46 := Try.sizeOf53
  v46 := Try.zeroValue53
  t51 := Try.underlying64
  a51 := Try.isAgg64
  z51 := Try.sizeOf64
  v51 := Try.zeroValue64
  t53 := Try.underlying66
  a53 := Try.isAgg66
  z53 := Try.sizeOf66
  v53 := Try.zeroValue66
  t131 := Try.underlying61
  a131 := Try.isAgg61
  z131 := Try.sizeOf61
  v131 := Try.zeroValue61
  t182 := Try.underlying55
  a182 := Try.isAgg55
  z182 := Try.sizeOf55
  v182 := Try.zeroValue55
  t183 := Try.underlying56
  a183 := Try.isAgg56
  z183 := Try.sizeOf56
  v183 := Try.zeroValue56
  t218 := Try.underlying67
  a218 := Try.isAgg67
  z218 := Try.sizeOf67
  v218 := Try.zeroValue67
  t222 := Try.underlying71
  a222 := Try.isAgg71
  z222 := Try.sizeOf71
  v222 := Try.zeroValue71
  t228 := Try.underlying74
  a228 := Try.isAgg74
  z228 := Try.sizeOf74
  v228 := Try.zeroValue74
  t229 := Try.underlying75
  a229 := Try.isAgg75
  z229 := Try.sizeOf75
  v229 := Try.zeroValue75 }
open Go.Sort Go.RowKit in
theorem Try.slices_Sort_string (blk off cap : Nat) (ss : List (List UInt8)) (w : World) (hH : Holds encStr w blk off ss.toArray) (hblk : blk < w.heap.size) (hsz : ss.length < 4611686018427387904) :
    Calls Try.prog 25 #[.slice (some ⟨blk, off, none⟩) ss.length cap] w fun e w' =>
      e = .returned (.tuple #[]) ∧ ∃ n os, w' = grow (putRow encStr (Sort.ahead w n) blk off (ss.mergeSort fun x y => decide (x ≤ y)).toArray) os := Any.slices_Sort_string Try.lays190 blk off cap ss w hH hblk hsz
open Go.RowKit Go.Sort in
/-- .. and plain. (LAID: no walk: one application.) -/
theorem Try.slices_Sort_string_none (p : Option Addr) (cap : Nat) (w : World) :
    Calls Try.prog 25 #[.slice p 0 cap] w fun e w' => e = .returned (.tuple #[]) ∧ w' = w := Any.slices_Sort_string_none Try.lays190 p cap w
end Go.Proofs
