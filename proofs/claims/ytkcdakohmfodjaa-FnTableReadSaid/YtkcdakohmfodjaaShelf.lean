/-
  DERIVED: THE SHELF's CONTRACTS AT THIS DUMP, IN PLAIN WORDS (tools/lay-plain.mjs out of 'TryShelf.lean', which tools/lay-shelf.mjs wrote): THE SAME DECLARATIONS UNDER THE SAME NAMES: 'import', 'namespace', 'open', 'def', 'theorem' AND NOTHING ELSE: no command of the shelf's: FOR A HAND-IN. Each laying: the table of numbers ('.._ren') and one theorem, a field a fact of the dump's own or the kernel's comparison; each contract: ONE APPLICATION.
-/
import Derived.Shelf.Sort.Plain
import Derived.Shelf.Slices.In.SortNone
import Derived.Test.YtkcdakohmfodjaaProg
namespace Go.Proofs.Ytkcdakohmfodjaa
open Go.Shelf
def Try.lays190_ren : Go.Shelf.Ren := ⟨fun | 190 => 63 | 125 => 60 | 258 => 86 | 128 => 84 | 129 => 85 | 302 => 99 | 303 => 100 | 304 => 101 | 305 => 102 | 306 => 103 | 307 => 104 | 308 => 105 | 309 => 106 | 310 => 107 | 333 => 115 | 329 => 95 | 330 => 96 | 334 => 116 | 335 => 117 | 336 => 118 | 344 => 119 | n => n, fun | 31 => 130 | 9 => 9 | 3 => 3 | 46 => 113 | 0 => 0 | 51 => 119 | 53 => 39 | 4 => 4 | 183 => 166 | 182 => 165 | 131 => 170 | 5 => 5 | 218 => 202 | 222 => 48 | 228 => 223 | 229 => 224 | n => n, fun | n => n⟩
theorem Try.lays190 : Go.Proofs.Lays.n190 Try.prog Try.lays190_ren := {
  mixed := by kernel_rfl
  f125 := Try.func60.trans (congrArg some (by kernel_rfl))
  f128 := Try.func84.trans (congrArg some (by kernel_rfl))
  f129 := Try.func85.trans (congrArg some (by kernel_rfl))
  f190 := Try.func63.trans (congrArg some (by kernel_rfl))
  f258 := Try.func86.trans (congrArg some (by kernel_rfl))
  f302 := Try.func99.trans (congrArg some (by kernel_rfl))
  f303 := Try.func100.trans (congrArg some (by kernel_rfl))
  f304 := Try.func101.trans (congrArg some (by kernel_rfl))
  f305 := Try.func102.trans (congrArg some (by kernel_rfl))
  f306 := Try.func103.trans (congrArg some (by kernel_rfl))
  f307 := Try.func104.trans (congrArg some (by kernel_rfl))
  f308 := Try.func105.trans (congrArg some (by kernel_rfl))
  f309 := Try.func106.trans (congrArg some (by kernel_rfl))
  f310 := Try.func107.trans (congrArg some (by kernel_rfl))
  f329 := Try.func95.trans (congrArg some (by kernel_rfl))
  f330 := Try.func96.trans (congrArg some (by kernel_rfl))
  f333 := Try.func115.trans (congrArg some (by kernel_rfl))
  f334 := Try.func116.trans (congrArg some (by kernel_rfl))
  f335 := Try.func117.trans (congrArg some (by kernel_rfl))
  f336 := Try.func118.trans (congrArg some (by kernel_rfl))
  f344 := Try.func119.trans (congrArg some (by kernel_rfl))
  t0 := Try.underlying0
  a0 := Try.isAgg0
  z0 := Try.sizeOf0
  v0 := Try.zeroValue0
  t3 := Try.underlying3
  a3 := Try.isAgg3
  z3 := Try.sizeOf3
  v3 := Try.zeroValue3
  t4 := Try.underlying4
  a4 := Try.isAgg4
  z4 := Try.sizeOf4
  v4 := Try.zeroValue4
  t5 := Try.underlying5
  a5 := Try.isAgg5
  z5 := Try.sizeOf5
  v5 := Try.zeroValue5
  t9 := Try.underlying9
  a9 := Try.isAgg9
  z9 := Try.sizeOf9
  v9 := Try.zeroValue9
  t31 := Try.underlying130
  a31 := Try.isAgg130
  z31 := Try.sizeOf130
  v31 := Try.zeroValue130
  t46 := Try.underlying113
  a46 := Try.isAgg113
  z46 := Try.sizeOf113
  v46 := Try.zeroValue113
  t51 := Try.underlying119
  a51 := Try.isAgg119
  z51 := Try.sizeOf119
  v51 := Try.zeroValue119
  t53 := Try.underlying39
  a53 := Try.isAgg39
  z53 := Try.sizeOf39
  v53 := Try.zeroValue39
  t131 := Try.underlying170
  a131 := Try.isAgg170
  z131 := Try.sizeOf170
  v131 := Try.zeroValue170
  t182 := Try.underlying165
  a182 := Try.isAgg165
  z182 := Try.sizeOf165
  v182 := Try.zeroValue165
  t183 := Try.underlying166
  a183 := Try.isAgg166
  z183 := Try.sizeOf166
  v183 := Try.zeroValue166
  t218 := Try.underlying202
  a218 := Try.isAgg202
  z218 := Try.sizeOf202
  v218 := Try.zeroValue202
  t222 := Try.underlying48
  a222 := Try.isAgg48
  z222 := Try.sizeOf48
  v222 := Try.zeroValue48
  t228 := Try.underlying223
  a228 := Try.isAgg223
  z228 := Try.sizeOf223
  v228 := Try.zeroValue223
  t229 := Try.underlying224
  a229 := Try.isAgg224
  z229 := Try.sizeOf224
  v229 := Try.zeroValue224 }
open Go.Sort Go.RowKit in
theorem Try.slices_Sort_string (blk off cap : Nat) (ss : List (List UInt8)) (w : World) (hH : Holds encStr w blk off ss.toArray) (hblk : blk < w.heap.size) (hsz : ss.length < 4611686018427387904) :
    Calls Try.prog 63 #[.slice (some ⟨blk, off, none⟩) ss.length cap] w fun e w' =>
      e = .returned (.tuple #[]) ∧ ∃ n os, w' = grow (putRow encStr (Sort.ahead w n) blk off (ss.mergeSort fun x y => decide (x ≤ y)).toArray) os := Any.slices_Sort_string Try.lays190 blk off cap ss w hH hblk hsz
open Go.RowKit Go.Sort in
/-- .. and plain. (LAID: no walk: one application.) -/
theorem Try.slices_Sort_string_none (p : Option Addr) (cap : Nat) (w : World) :
    Calls Try.prog 63 #[.slice p 0 cap] w fun e w' => e = .returned (.tuple #[]) ∧ w' = w := Any.slices_Sort_string_none Try.lays190 p cap w
end Go.Proofs.Ytkcdakohmfodjaa
