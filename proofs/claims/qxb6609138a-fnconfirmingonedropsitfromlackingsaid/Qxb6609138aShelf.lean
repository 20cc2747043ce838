/-
  DERIVED: THE SHELF's CONTRACTS AT THIS DUMP, IN PLAIN WORDS (tools/lay-plain.mjs out of 'Qxb6609138aShelf.lean', which tools/lay-shelf.mjs wrote): THE SAME DECLARATIONS UNDER THE SAME NAMES: 'import', 'namespace', 'open', 'def', 'theorem' AND NOTHING ELSE: no command of the shelf's: FOR A HAND-IN. Each laying: the table of numbers ('.._ren') and one theorem, a field a fact of the dump's own or the kernel's comparison; each contract: ONE APPLICATION.
-/
import Derived.Shelf.Sort.Plain
import Derived.Shelf.Slices.In.SortNone
import Derived.Test.Qxb6609138aProg
namespace Go.Proofs
open Go.Shelf
def Try.lays190_ren : Go.Shelf.Ren := ⟨fun | 190 => 27 | 125 => 29 | 258 => 28 | 128 => 39 | 129 => 40 | 302 => 30 | 303 => 31 | 304 => 32 | 305 => 33 | 306 => 34 | 307 => 35 | 308 => 36 | 309 => 37 | 310 => 38 | 333 => 41 | 329 => 42 | 330 => 43 | 334 => 44 | 335 => 45 | 336 => 46 | 344 => 47 | n => n, fun | 31 => 34 | 9 => 9 | 3 => 3 | 46 => 76 | 0 => 0 | 51 => 23 | 53 => 22 | 4 => 4 | 183 => 79 | 182 => 78 | 131 => 84 | 5 => 5 | 218 => 88 | 222 => 92 | 228 => 95 | 229 => 96 | n => n, fun | n => n⟩
theorem Try.lays190 : Go.Proofs.Lays.n190 Try.prog Try.lays190_ren := {
  mixed := by kernel_rfl
  f125 := Try.func29.trans (congrArg some (by kernel_rfl))
  f128 := Try.func39.trans (congrArg some (by kernel_rfl))
  f129 := Try.func40.trans (congrArg some (by kernel_rfl))
  f190 := Try.func27.trans (congrArg some (by kernel_rfl))
  f258 := Try.func28.trans (congrArg some (by kernel_rfl))
  f302 := Try.func30.trans (congrArg some (by kernel_rfl))
  f303 := Try.func31.trans (congrArg some (by kernel_rfl))
  f304 := Try.func32.trans (congrArg some (by kernel_rfl))
  f305 := Try.func33.trans (congrArg some (by kernel_rfl))
  f306 := Try.func34.trans (congrArg some (by kernel_rfl))
  f307 := Try.func35.trans (congrArg some (by kernel_rfl))
  f308 := Try.func36.trans (congrArg some (by kernel_rfl))
  f309 := Try.func37.trans (congrArg some (by kernel_rfl))
  f310 := Try.func38.trans (congrArg some (by kernel_rfl))
  f329 := Try.func42.trans (congrArg some (by kernel_rfl))
  f330 := Try.func43.trans (congrArg some (by kernel_rfl))
  f333 := Try.func41.trans (congrArg some (by kernel_rfl))
  f334 := Try.func44.trans (congrArg some (by kernel_rfl))
  f335 := Try.func45.trans (congrArg some (by kernel_rfl))
  f336 := Try.func46.trans (congrArg some (by kernel_rfl))
  f344 := Try.func47.trans (congrArg some (by kernel_rfl))
  t0 := Try.underlying0
  a0 := Try.isAgg0
  z0 := Try.sizeOf0
  v0 := Try.zeroValue0
  t3 := Try.underlying3
  a3 := Try.isAgg3
  z3 := Try.sizeOf3
  v3 := Try.zeroValue3
  t4 := Try.underlying4
  a4 := Try.isAgg4
  z4 := Try.sizeOf4
  v4 := Try.zeroValue4
  t5 := Try.underlying5
  a5 := Try.isAgg5
  z5 := Try.sizeOf5
  v5 := Try.zeroValue5
  t9 := Try.underlying9
  a9 := Try.isAgg9
  z9 := Try.sizeOf9
  v9 := Try.zeroValue9
  t31 := Try.underlying34
  a31 := Try.isAgg34
  z31 := Try.sizeOf34
  v31 := Try.zeroValue34
  t46 := Try.underlying76
  a46 := Try.isAgg76
  z46 := Try.sizeOf76
  v46 := Try.zeroValue76
  t51 := Try.underlying23
  a51 := Try.isAgg23
  z51 := Try.sizeOf23
  v51 := Try.zeroValue23
  t53 := Try.underlying22
  a53 := Try.isAgg22
  z53 := Try.sizeOf22
  v53 := Try.zeroValue22
  t131 := Try.underlying84
  a131 := Try.isAgg84
  z131 := Try.sizeOf84
  v131 := Try.zeroValue84
  t182 := Try.underlying78
  a182 := Try.isAgg78
  z182 := Try.sizeOf78
  v182 := Try.zeroValue78
  t183 := Try.underlying79
  a183 := Try.isAgg79
  z183 := Try.sizeOf79
  v183 := Try.zeroValue79
  t218 := Try.underlying88
  a218 := Try.isAgg88
  z218 := Try.sizeOf88
  v218 := Try.zeroValue88
  t222 := Try.underlying92
  a222 := Try.isAgg92
  z222 := Try.sizeOf92
  v222 := Try.zeroValue92
  t228 := Try.underlying95
  a228 := Try.isAgg95
  z228 := Try.sizeOf95
  v228 := Try.zeroValue95
  t229 := Try.underlying96
  a229 := Try.isAgg96
  z229 := Try.sizeOf96
  v229 := Try.zeroValue96 }
open Go.Sort Go.RowKit in
theorem Try.slices_Sort_string (blk off cap : Nat) (ss : List (List UInt8)) (w : World) (hH : Holds encStr w blk off ss.toArray) (hblk : blk < w.heap.size) (hsz : ss.length < 4611686018427387904) :
    Calls Try.prog 27 #[.slice (some ⟨blk, off, none⟩) ss.length cap] w fun e w' =>
      e = .returned (.tuple #[]) ∧ ∃ n os, w' = grow (putRow encStr (Sort.ahead w n) blk off (ss.mergeSort fun x y => decide (x ≤ y)).toArray) os := Any.slices_Sort_string Try.lays190 blk off cap ss w hH hblk hsz
open Go.RowKit Go.Sort in
/-- .. and plain. (LAID: no walk: one application.) -/
theorem Try.slices_Sort_string_none (p : Option Addr) (cap : Nat) (w : World) :
    Calls Try.prog 27 #[.slice p 0 cap] w fun e w' => e = .returned (.tuple #[]) ∧ w' = w := Any.slices_Sort_string_none Try.lays190 p cap w
end Go.Proofs
