/-
  DERIVED: THE SHELF's CONTRACTS AT THIS DUMP, IN PLAIN WORDS (tools/lay-plain.mjs out of 'TryShelf.lean', which tools/lay-shelf.mjs wrote): THE SAME DECLARATIONS UNDER THE SAME NAMES: 'import', 'namespace', 'open', 'def', 'theorem' AND NOTHING ELSE: no command of the shelf's: FOR A HAND-IN. Each laying: the table of numbers ('.._ren') and one theorem, a field a fact of the dump's own or the kernel's comparison; each contract: ONE APPLICATION.
-/
import Derived.Shelf.Sort.Plain
import Derived.Shelf.Slices.In.SortNone
import Derived.Test.YtabeppaehenefaaGreatProg
namespace Go.Proofs.YtabeppaehenefaaGreat
open Go.Shelf
def Tryz.lays190_ren : Go.Shelf.Ren := ⟨fun | 190 => 80 | 125 => 85 | 258 => 84 | 128 => 96 | 129 => 97 | 302 => 87 | 303 => 88 | 304 => 89 | 305 => 90 | 306 => 91 | 307 => 92 | 308 => 93 | 309 => 94 | 310 => 95 | 333 => 99 | 329 => 100 | 330 => 101 | 334 => 102 | 335 => 103 | 336 => 104 | 344 => 105 | n => n, fun | 31 => 336 | 9 => 9 | 3 => 3 | 46 => 301 | 0 => 0 | 51 => 114 | 53 => 38 | 4 => 4 | 183 => 349 | 182 => 348 | 131 => 354 | 5 => 5 | 218 => 359 | 222 => 75 | 228 => 365 | 229 => 366 | n => n, fun | n => n⟩
theorem Tryz.lays190 : Go.Proofs.Lays.n190 Tryz.prog Tryz.lays190_ren := {
  mixed := by kernel_rfl
  f125 := Tryz.func85.trans (congrArg some (by kernel_rfl))
  f128 := Tryz.func96.trans (congrArg some (by kernel_rfl))
  f129 := Tryz.func97.trans (congrArg some (by kernel_rfl))
  f190 := Tryz.func80.trans (congrArg some (by kernel_rfl))
  f258 := Tryz.func84.trans (congrArg some (by kernel_rfl))
  f302 := Tryz.func87.trans (congrArg some (by kernel_rfl))
  f303 := Tryz.func88.trans (congrArg some (by kernel_rfl))
  f304 := Tryz.func89.trans (congrArg some (by kernel_rfl))
  f305 := Tryz.func90.trans (congrArg some (by kernel_rfl))
  f306 := Tryz.func91.trans (congrArg some (by kernel_rfl))
  f307 := Tryz.func92.trans (congrArg some (by kernel_rfl))
  f308 := Tryz.func93.trans (congrArg some (by kernel_rfl))
  f309 := Tryz.func94.trans (congrArg some (by kernel_rfl))
  f310 := Tryz.func95.trans (congrArg some (by kernel_rfl))
  f329 := Tryz.func100.trans (congrArg some (by kernel_rfl))
  f330 := Tryz.func101.trans (congrArg some (by kernel_rfl))
  f333 := Tryz.func99.trans (congrArg some (by kernel_rfl))
  f334 := Tryz.func102.trans (congrArg some (by kernel_rfl))
  f335 := Tryz.func103.trans (congrArg some (by kernel_rfl))
  f336 := Tryz.func104.trans (congrArg some (by kernel_rfl))
  f344 := Tryz.func105.trans (congrArg some (by kernel_rfl))
  t0 := Tryz.underlying0
  a0 := Tryz.isAgg0
  z0 := Tryz.sizeOf0
  v0 := Tryz.zeroValue0
  t3 := Tryz.underlying3
  a3 := Tryz.isAgg3
  z3 := Tryz.sizeOf3
  v3 := Tryz.zeroValue3
  t4 := Tryz.underlying4
  a4 := Tryz.isAgg4
  z4 := Tryz.sizeOf4
  v4 := Tryz.zeroValue4
  t5 := Tryz.underlying5
  a5 := Tryz.isAgg5
  z5 := Tryz.sizeOf5
  v5 := Tryz.zeroValue5
  t9 := Tryz.underlying9
  a9 := Tryz.isAgg9
  z9 := Tryz.sizeOf9
  v9 := Tryz.zeroValue9
  t31 := Tryz.underlying336
  a31 := Tryz.isAgg336
  z31 := Tryz.sizeOf336
  v31 := Tryz.zeroValue336
  t46 := Tryz.underlying301
  a46 := Tryz.isAgg301
  z46 := Tryz.sizeOf301
  v46 := Tryz.zeroValue301
  t51 := Tryz.underlying114
  a51 := Tryz.isAgg114
  z51 := Tryz.sizeOf114
  v51 := Tryz.zeroValue114
  t53 := Tryz.underlying38
  a53 := Tryz.isAgg38
  z53 := Tryz.sizeOf38
  v53 := Tryz.zeroValue38
  t131 := Tryz.underlying354
  a131 := Tryz.isAgg354
  z131 := Tryz.sizeOf354
  v131 := Tryz.zeroValue354
  t182 := Tryz.underlying348
  a182 := Tryz.isAgg348
  z182 := Tryz.sizeOf348
  v182 := Tryz.zeroValue348
  t183 := Tryz.underlying349
  a183 := Tryz.isAgg349
  z183 := Tryz.sizeOf349
  v183 := Tryz.zeroValue349
  t218 := Tryz.underlying359
  a218 := Tryz.isAgg359
  z218 := Tryz.sizeOf359
  v218 := Tryz.zeroValue359
  t222 := Tryz.underlying75
  a222 := Tryz.isAgg75
  z222 := Tryz.sizeOf75
  v222 := Tryz.zeroValue75
  t228 := Tryz.underlying365
  a228 := Tryz.isAgg365
  z228 := Tryz.sizeOf365
  v228 := Tryz.zeroValue365
  t229 := Tryz.underlying366
  a229 := Tryz.isAgg366
  z229 := Tryz.sizeOf366
  v229 := Tryz.zeroValue366 }
open Go.Sort Go.RowKit in
theorem Tryz.slices_Sort_string (blk off cap : Nat) (ss : List (List UInt8)) (w : World) (hH : Holds encStr w blk off ss.toArray) (hblk : blk < w.heap.size) (hsz : ss.length < 4611686018427387904) :
    Calls Tryz.prog 80 #[.slice (some ⟨blk, off, none⟩) ss.length cap] w fun e w' =>
      e = .returned (.tuple #[]) ∧ ∃ n os, w' = grow (putRow encStr (Sort.ahead w n) blk off (ss.mergeSort fun x y => decide (x ≤ y)).toArray) os := Any.slices_Sort_string Tryz.lays190 blk off cap ss w hH hblk hsz
open Go.RowKit Go.Sort in
/-- .. and plain. (LAID: no walk: one application.) -/
theorem Tryz.slices_Sort_string_none (p : Option Addr) (cap : Nat) (w : World) :
    Calls Tryz.prog 80 #[.slice p 0 cap] w fun e w' => e = .returned (.tuple #[]) ∧ w' = w := Any.slices_Sort_string_none Tryz.lays190 p cap w
end Go.Proofs.YtabeppaehenefaaGreat
