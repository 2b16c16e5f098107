/-
  DERIVED: THE SHELF's CONTRACTS AT THIS DUMP, IN PLAIN WORDS (tools/lay-plain.mjs out of 'TryShelf.lean', which tools/lay-shelf.mjs wrote): THE SAME DECLARATIONS UNDER THE SAME NAMES: 'import', 'namespace', 'open', 'def', 'theorem' AND NOTHING ELSE: no command of the shelf's: FOR A HAND-IN. Each laying: the table of numbers ('.._ren') and one theorem, a field a fact of the dump's own or the kernel's comparison; each contract: ONE APPLICATION.
-/
import Derived.Shelf.Sort.Plain
import Derived.Test.Qxb6617328aProg
namespace Go.Proofs
open Go.Shelf
def Try.lays190_ren : Go.Shelf.Ren := ⟨fun | 190 => 23 | 125 => 25 | 258 => 24 | 128 => 35 | 129 => 36 | 302 => 26 | 303 => 27 | 304 => 28 | 305 => 29 | 306 => 30 | 307 => 31 | 308 => 32 | 309 => 33 | 310 => 34 | 333 => 37 | 329 => 38 | 330 => 39 | 334 => 40 | 335 => 41 | 336 => 42 | 344 => 43 | n => n, fun | 31 => 25 | 9 => 9 | 3 => 3 | 46 => 45 | 0 => 0 | 51 => 58 | 53 => 60 | 4 => 4 | 183 => 51 | 182 => 50 | 131 => 23 | 5 => 5 | 218 => 61 | 222 => 65 | 228 => 68 | 229 => 69 | n => n, fun | n => n⟩
theorem Try.lays190 : Go.Proofs.Lays.n190 Try.prog Try.lays190_ren := {
  mixed := by kernel_rfl
  f125 := Try.func25.trans (congrArg some (by kernel_rfl))
  f128 := Try.func35.trans (congrArg some (by kernel_rfl))
  f129 := Try.func36.trans (congrArg some (by kernel_rfl))
  f190 := Try.func23.trans (congrArg some (by kernel_rfl))
  f258 := Try.func24.trans (congrArg some (by kernel_rfl))
  f302 := Try.func26.trans (congrArg some (by kernel_rfl))
  f303 := Try.func27.trans (congrArg some (by kernel_rfl))
  f304 := Try.func28.trans (congrArg some (by kernel_rfl))
  f305 := Try.func29.trans (congrArg some (by kernel_rfl))
  f306 := Try.func30.trans (congrArg some (by kernel_rfl))
  f307 := Try.func31.trans (congrArg some (by kernel_rfl))
  f308 := Try.func32.trans (congrArg some (by kernel_rfl))
  f309 := Try.func33.trans (congrArg some (by kernel_rfl))
  f310 := Try.func34.trans (congrArg some (by kernel_rfl))
  f329 := Try.func38.trans (congrArg some (by kernel_rfl))
  f330 := Try.func39.trans (congrArg some (by kernel_rfl))
  f333 := Try.func37.trans (congrArg some (by kernel_rfl))
  f334 := Try.func40.trans (congrArg some (by kernel_rfl))
  f335 := Try.func41.trans (congrArg some (by kernel_rfl))
  f336 := Try.func42.trans (congrArg some (by kernel_rfl))
  f344 := Try.func43.trans (congrArg some (by kernel_rfl))
  t0 := Try.underlying0
  a0 := Try.isAgg0
  z0 := Try.sizeOf0
  v0 := Try.zeroValue0
  t3 := Try.underlying3
  a3 := Try.isAgg3
  z3 := Try.sizeOf3
  v3 := Try.zeroValue3
  t4 := Try.underlying4
  a4 := Try.isAgg4
  z4 := Try.sizeOf4
  v4 := Try.zeroValue4
  t5 := Try.underlying5
  a5 := Try.isAgg5
  z5 := Try.sizeOf5
  v5 := Try.zeroValue5
  t9 := Try.underlying9
  a9 := Try.isAgg9
  z9 := Try.sizeOf9
  v9 := Try.zeroValue9
  t31 := Try.underlying25
  a31 := Try.isAgg25
  z31 := Try.sizeOf25
  v31 := Try.zeroValue25
  t46 := Try.underlying45
  a46 := Try.isAgg45
  z46 := Try.sizeOf45
  v46 := Try.zeroValue45
  t51 := Try.underlying58
  a51 := Try.isAgg58
  z51 := Try.sizeOf58
  v51 := Try.zeroValue58
  t53 := Try.underlying60
  a53 := Try.isAgg60
  z53 := Try.sizeOf60
  v53 := Try.zeroValue60
  t131 := Try.underlying23
  a131 := Try.isAgg23
  z131 := Try.sizeOf23
  v131 := Try.zeroValue23
  t182 := Try.underlying50
  a182 := Try.isAgg50
  z182 := Try.sizeOf50
  v182 := Try.zeroValue50
  t183 := Try.underlying51
  a183 := Try.isAgg51
  z183 := Try.sizeOf51
  v183 := Try.zeroValue51
  t218 := Try.underlying61
  a218 := Try.isAgg61
  z218 := Try.sizeOf61
  v218 := Try.zeroValue61
  t222 := Try.underlying65
  a222 := Try.isAgg65
  z222 := Try.sizeOf65
  v222 := Try.zeroValue65
  t228 := Try.underlying68
  a228 := Try.isAgg68
  z228 := Try.sizeOf68
  v228 := Try.zeroValue68
  t229 := Try.underlying69
  a229 := Try.isAgg69
  z229 := Try.sizeOf69
  v229 := Try.zeroValue69 }
open Go.Sort Go.RowKit in
theorem Try.slices_Sort_string (blk off cap : Nat) (ss : List (List UInt8)) (w : World) (hH : Holds encStr w blk off ss.toArray) (hblk : blk < w.heap.size) (hsz : ss.length < 4611686018427387904) :
    Calls Try.prog 23 #[.slice (some ⟨blk, off, none⟩) ss.length cap] w fun e w' =>
      e = .returned (.tuple #[]) ∧ ∃ n os, w' = grow (putRow encStr (Sort.ahead w n) blk off (ss.mergeSort fun x y => decide (x ≤ y)).toArray) os := Any.slices_Sort_string Try.lays190 blk off cap ss w hH hblk hsz
end Go.Proofs
