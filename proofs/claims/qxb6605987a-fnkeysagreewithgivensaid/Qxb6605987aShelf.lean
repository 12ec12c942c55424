/-
  DERIVED: THE SHELF's CONTRACTS AT THIS DUMP, IN PLAIN WORDS (tools/lay-plain.mjs out of 'TryShelf.lean', which tools/lay-shelf.mjs wrote): THE SAME DECLARATIONS UNDER THE SAME NAMES: 'import', 'namespace', 'open', 'def', 'theorem' AND NOTHING ELSE: no command of the shelf's: FOR A HAND-IN. Each laying: the table of numbers ('.._ren') and one theorem, a field a fact of the dump's own or the kernel's comparison; each contract: ONE APPLICATION.
-/
import Derived.Shelf.Sort.Plain
import Derived.Shelf.Slices.In.SortNone
import Derived.Test.Qxb6605987aProg
namespace Go.Proofs
open Go.Shelf
def Try.lays190_ren : Go.Shelf.Ren := ⟨fun | 190 => 26 | 125 => 31 | 258 => 30 | 128 => 41 | 129 => 42 | 302 => 32 | 303 => 33 | 304 => 34 | 305 => 35 | 306 => 36 | 307 => 37 | 308 => 38 | 309 => 39 | 310 => 40 | 333 => 43 | 329 => 44 | 330 => 45 | 334 => 46 | 335 => 47 | 336 => 48 | 344 => 49 | n => n, fun | 31 => 39 | 9 => 9 | 3 => 3 | 46 => 79 | 0 => 0 | 51 => 23 | 53 => 43 | 4 => 4 | 183 => 82 | 182 => 81 | 131 => 76 | 5 => 5 | 218 => 90 | 222 => 94 | 228 => 96 | 229 => 97 | n => n, fun | n => n⟩
theorem Try.lays190 : Go.Proofs.Lays.n190 Try.prog Try.lays190_ren := {
  mixed := by kernel_rfl
  f125 := Try.func31.trans (congrArg some (by kernel_rfl))
  f128 := Try.func41.trans (congrArg some (by kernel_rfl))
  f129 := Try.func42.trans (congrArg some (by kernel_rfl))
  f190 := Try.func26.trans (congrArg some (by kernel_rfl))
  f258 := Try.func30.trans (congrArg some (by kernel_rfl))
  f302 := Try.func32.trans (congrArg some (by kernel_rfl))
  f303 := Try.func33.trans (congrArg some (by kernel_rfl))
  f304 := Try.func34.trans (congrArg some (by kernel_rfl))
  f305 := Try.func35.trans (congrArg some (by kernel_rfl))
  f306 := Try.func36.trans (congrArg some (by kernel_rfl))
  f307 := Try.func37.trans (congrArg some (by kernel_rfl))
  f308 := Try.func38.trans (congrArg some (by kernel_rfl))
  f309 := Try.func39.trans (congrArg some (by kernel_rfl))
  f310 := Try.func40.trans (congrArg some (by kernel_rfl))
  f329 := Try.func44.trans (congrArg some (by kernel_rfl))
  f330 := Try.func45.trans (congrArg some (by kernel_rfl))
  f333 := Try.func43.trans (congrArg some (by kernel_rfl))
  f334 := Try.func46.trans (congrArg some (by kernel_rfl))
  f335 := Try.func47.trans (congrArg some (by kernel_rfl))
  f336 := Try.func48.trans (congrArg some (by kernel_rfl))
  f344 := Try.func49.trans (congrArg some (by kernel_rfl))
  t0 := Try.underlying0
  a0 := Try.isAgg0
  z0 := Try.sizeOf0
  v0 := Try.zeroValue0
  t3 := Try.underlying3
  a3 := Try.isAgg3
  z3 := Try.sizeOf3
  v3 := Try.zeroValue3
  t4 := Try.underlying4
  a4 := Try.isAgg4
  z4 := Try.sizeOf4
  v4 := Try.zeroValue4
  t5 := Try.underlying5
  a5 := Try.isAgg5
  z5 := Try.sizeOf5
  v5 := Try.zeroValue5
  t9 := Try.underlying9
  a9 := Try.isAgg9
  z9 := Try.sizeOf9
  v9 := Try.zeroValue9
  t31 := Try.underlying39
  a31 := Try.isAgg39
  z31 := Try.sizeOf39
  v31 := Try.zeroValue39
  t46 := Try.underlying79
  a46 := Try.isAgg79
  z46 := Try.sizeOf79
  v46 := Try.zeroValue79
  t51 := Try.underlying23
  a51 := Try.isAgg23
  z51 := Try.sizeOf23
  v51 := Try.zeroValue23
  t53 := Try.underlying43
  a53 := Try.isAgg43
  z53 := Try.sizeOf43
  v53 := Try.zeroValue43
  t131 := Try.underlying76
  a131 := Try.isAgg76
  z131 := Try.sizeOf76
  v131 := Try.zeroValue76
  t182 := Try.underlying81
  a182 := Try.isAgg81
  z182 := Try.sizeOf81
  v182 := Try.zeroValue81
  t183 := Try.underlying82
  a183 := Try.isAgg82
  z183 := Try.sizeOf82
  v183 := Try.zeroValue82
  t218 := Try.underlying90
  a218 := Try.isAgg90
  z218 := Try.sizeOf90
  v218 := Try.zeroValue90
  t222 := Try.underlying94
  a222 := Try.isAgg94
  z222 := Try.sizeOf94
  v222 := Try.zeroValue94
  t228 := Try.underlying96
  a228 := Try.isAgg96
  z228 := Try.sizeOf96
  v228 := Try.zeroValue96
  t229 := Try.underlying97
  a229 := Try.isAgg97
  z229 := Try.sizeOf97
  v229 := Try.zeroValue97 }
open Go.Sort Go.RowKit in
theorem Try.slices_Sort_string (blk off cap : Nat) (ss : List (List UInt8)) (w : World) (hH : Holds encStr w blk off ss.toArray) (hblk : blk < w.heap.size) (hsz : ss.length < 4611686018427387904) :
    Calls Try.prog 26 #[.slice (some ⟨blk, off, none⟩) ss.length cap] w fun e w' =>
      e = .returned (.tuple #[]) ∧ ∃ n os, w' = grow (putRow encStr (Sort.ahead w n) blk off (ss.mergeSort fun x y => decide (x ≤ y)).toArray) os := Any.slices_Sort_string Try.lays190 blk off cap ss w hH hblk hsz
open Go.RowKit Go.Sort in
/-- .. and plain. (LAID: no walk: one application.) -/
theorem Try.slices_Sort_string_none (p : Option Addr) (cap : Nat) (w : World) :
    Calls Try.prog 26 #[.slice p 0 cap] w fun e w' => e = .returned (.tuple #[]) ∧ w' = w := Any.slices_Sort_string_none Try.lays190 p cap w
end Go.Proofs
