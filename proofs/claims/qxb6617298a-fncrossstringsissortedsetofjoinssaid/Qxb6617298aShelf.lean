/-
  DERIVED: THE SHELF's CONTRACTS AT THIS DUMP, IN PLAIN WORDS (tools/lay-plain.mjs out of 'TryShelf.lean', which tools/lay-shelf.mjs wrote): THE SAME DECLARATIONS UNDER THE SAME NAMES: 'import', 'namespace', 'open', 'def', 'theorem' AND NOTHING ELSE: no command of the shelf's: FOR A HAND-IN. Each laying: the table of numbers ('.._ren') and one theorem, a field a fact of the dump's own or the kernel's comparison; each contract: ONE APPLICATION.
-/
import Derived.Shelf.Sort.Plain
import Derived.Shelf.Slices.CompactS
import Derived.Test.Qxb6617298aProg
namespace Go.Proofs
open Go.Shelf
def Try.lays190_ren : Go.Shelf.Ren := ⟨fun | 190 => 19 | 125 => 25 | 258 => 24 | 128 => 35 | 129 => 36 | 302 => 26 | 303 => 27 | 304 => 28 | 305 => 29 | 306 => 30 | 307 => 31 | 308 => 32 | 309 => 33 | 310 => 34 | 333 => 37 | 329 => 38 | 330 => 39 | 334 => 40 | 335 => 41 | 336 => 42 | 344 => 43 | n => n, fun | 31 => 22 | 9 => 9 | 3 => 3 | 46 => 43 | 0 => 0 | 51 => 54 | 53 => 56 | 4 => 4 | 183 => 46 | 182 => 45 | 131 => 51 | 5 => 5 | 218 => 57 | 222 => 61 | 228 => 64 | 229 => 65 | n => n, fun | n => n⟩
theorem Try.lays190 : Go.Proofs.Lays.n190 Try.prog Try.lays190_ren := {
  mixed := by kernel_rfl
  f125 := Try.func25.trans (congrArg some (by kernel_rfl))
  f128 := Try.func35.trans (congrArg some (by kernel_rfl))
  f129 := Try.func36.trans (congrArg some (by kernel_rfl))
  f190 := Try.func19.trans (congrArg some (by kernel_rfl))
  f258 := Try.func24.trans (congrArg some (by kernel_rfl))
  f302 := Try.func26.trans (congrArg some (by kernel_rfl))
  f303 := Try.func27.trans (congrArg some (by kernel_rfl))
  f304 := Try.func28.trans (congrArg some (by kernel_rfl))
  f305 := Try.func29.trans (congrArg some (by kernel_rfl))
  f306 := Try.func30.trans (congrArg some (by kernel_rfl))
  f307 := Try.func31.trans (congrArg some (by kernel_rfl))
  f308 := Try.func32.trans (congrArg some (by kernel_rfl))
  f309 := Try.func33.trans (congrArg some (by kernel_rfl))
  f310 := Try.func34.trans (congrArg some (by kernel_rfl))
  f329 := Try.func38.trans (congrArg some (by kernel_rfl))
  f330 := Try.func39.trans (congrArg some (by kernel_rfl))
  f333 := Try.func37.trans (congrArg some (by kernel_rfl))
  f334 := Try.func40.trans (congrArg some (by kernel_rfl))
  f335 := Try.func41.trans (congrArg some (by kernel_rfl))
  f336 := Try.func42.trans (congrArg some (by kernel_rfl))
  f344 := Try.func43.trans (congrArg some (by kernel_rfl))
  t0 := Try.underlying0
  a0 := Try.isAgg0
  z0 := Try.sizeOf0
  v0 := Try.zeroValue0
  t3 := Try.underlying3
  a3 := Try.isAgg3
  z3 := Try.sizeOf3
  v3 := Try.zeroValue3
  t4 := Try.underlying4
  a4 := Try.isAgg4
  z4 := Try.sizeOf4
  v4 := Try.zeroValue4
  t5 := Try.underlying5
  a5 := Try.isAgg5
  z5 := Try.sizeOf5
  v5 := Try.zeroValue5
  t9 := Try.underlying9
  a9 := Try.isAgg9
  z9 := Try.sizeOf9
  v9 := Try.zeroValue9
  t31 := Try.underlying22
  a31 := Try.isAgg22
  z31 := Try.sizeOf22
  v31 := Try.zeroValue22
  t46 := Try.underlying43
  a46 := Try.isAgg43
  z46 := Try.sizeOf43
  v46 := Try.zeroValue43
  t51 := Try.underlying54
  a51 := Try.isAgg54
  z51 := Try.sizeOf54
  v51 := Try.zeroValue54
  t53 := Try.underlying56
  a53 := Try.isAgg56
  z53 := Try.sizeOf56
  v53 := Try.zeroValue56
  t131 := Try.underlying51
  a131 := Try.isAgg51
  z131 := Try.sizeOf51
  v131 := Try.zeroValue51
  t182 := Try.underlying45
  a182 := Try.isAgg45
  z182 := Try.sizeOf45
  v182 := Try.zeroValue45
  t183 := Try.underlying46
  a183 := Try.isAgg46
  z183 := Try.sizeOf46
  v183 := Try.zeroValue46
  t218 := Try.underlying57
  a218 := Try.isAgg57
  z218 := Try.sizeOf57
  v218 := Try.zeroValue57
  t222 := Try.underlying61
  a222 := Try.isAgg61
  z222 := Try.sizeOf61
  v222 := Try.zeroValue61
  t228 := Try.underlying64
  a228 := Try.isAgg64
  z228 := Try.sizeOf64
  v228 := Try.zeroValue64
  t229 := Try.underlying65
  a229 := Try.isAgg65
  z229 := Try.sizeOf65
  v229 := Try.zeroValue65 }
open Go.Sort Go.RowKit in
theorem Try.slices_Sort_string (blk off cap : Nat) (ss : List (List UInt8)) (w : World) (hH : Holds encStr w blk off ss.toArray) (hblk : blk < w.heap.size) (hsz : ss.length < 4611686018427387904) :
    Calls Try.prog 19 #[.slice (some ⟨blk, off, none⟩) ss.length cap] w fun e w' =>
      e = .returned (.tuple #[]) ∧ ∃ n os, w' = grow (putRow encStr (Sort.ahead w n) blk off (ss.mergeSort fun x y => decide (x ≤ y)).toArray) os := Any.slices_Sort_string Try.lays190 blk off cap ss w hH hblk hsz
def Try.lays194_ren : Go.Shelf.Ren := ⟨fun | 194 => 20 | n => n, fun | 31 => 22 | 9 => 9 | 3 => 3 | 4 => 4 | 0 => 0 | n => n, fun | n => n⟩
theorem Try.lays194 : Go.Proofs.Lays.n194 Try.prog Try.lays194_ren := {
  mixed := by kernel_rfl
  f194 := Try.func20.trans (congrArg some (by kernel_rfl))
  t0 := Try.underlying0
  a0 := Try.isAgg0
  z0 := Try.sizeOf0
  v0 := Try.zeroValue0
  t3 := Try.underlying3
  a3 := Try.isAgg3
  z3 := Try.sizeOf3
  v3 := Try.zeroValue3
  t4 := Try.underlying4
  a4 := Try.isAgg4
  z4 := Try.sizeOf4
  v4 := Try.zeroValue4
  t9 := Try.underlying9
  a9 := Try.isAgg9
  z9 := Try.sizeOf9
  v9 := Try.zeroValue9
  t31 := Try.underlying22
  a31 := Try.isAgg22
  z31 := Try.sizeOf22
  v31 := Try.zeroValue22 }
open Go.RowKit Go.Lib Go.Sort in
/-- slices.Compact at []string, over an array: the library's two loops are walked. (LAID: no walk: one application.) -/
theorem Try.slices_Compact_string_arr (blk off cap : Nat) (d : Array (List UInt8)) (w : World) (hH : Holds encStr w blk off d) (hsz : d.size ≤ 9223372036854775807) (hcap : d.size ≤ cap) :
    Calls Try.prog 20 #[.slice (some ⟨blk, off, none⟩) d.size cap] w fun e w' => e = .returned (.slice (some ⟨blk, off, none⟩) (compactUpTo d d.size).length cap) ∧ ∃ q, w' = putRow encStr (Sort.ahead w q) blk off (compactUpTo d d.size ++ List.replicate (d.size - (compactUpTo d d.size).length) []).toArray := Any.slices_Compact_string_arr Try.lays194 blk off cap d w hH hsz hcap
open Go.RowKit Go.Lib Go.Sort in
/-- slices.Compact at []string: "Compact replaces consecutive runs of equal elements with a single copy. This is like the uniq command found on Unix. Compact modifies the contents of the slice s and returns the modified slice, which may have a smaller length. Compact zeroes the elements between the new length and the original length. The result preserves the nilness of s.": IT RETURNS THE SLICE CUT TO 'Lib.compact zs'; ITS CELLS HOLD 'Lib.compact zs', THEN ZERO VALUES up to the old length; all else is as it was, but for the count of draws. IN THE WORDS OF slices.Sort's CONTRACT ('Holds', 'putRow'): so the everyday 'slices.Sort(xs); xs = slices.Compact(xs)' goes from the one contract to the other. It asks 'zs.length ≤ cap' (every slice's: the reslicing 's[:k]' looks at it). Length 0, nil: '.._empty'. (LAID: no walk: one application.) -/
theorem Try.slices_Compact_string (blk off cap : Nat) (zs : List (List UInt8)) (w : World) (hH : Holds encStr w blk off zs.toArray) (hsz : zs.length ≤ 9223372036854775807) (hcap : zs.length ≤ cap) :
    Calls Try.prog 20 #[.slice (some ⟨blk, off, none⟩) zs.length cap] w fun e w' => e = .returned (.slice (some ⟨blk, off, none⟩) (Lib.compact zs).length cap) ∧ ∃ q, w' = putRow encStr (Sort.ahead w q) blk off (Lib.compact zs ++ List.replicate (zs.length - (Lib.compact zs).length) []).toArray := Any.slices_Compact_string Try.lays194 blk off cap zs w hH hsz hcap
open Go.RowKit Go.Lib Go.Sort in
/-- The same at a slice of length 0, a nil one too: it comes back as it is. (LAID: no walk: one application.) -/
theorem Try.slices_Compact_string_empty (a : Option Addr) (cap : Nat) (w : World) :
    Calls Try.prog 20 #[.slice a 0 cap] w fun e w' => e = .returned (.slice a 0 cap) ∧ w' = w := Any.slices_Compact_string_empty Try.lays194 a cap w
end Go.Proofs
