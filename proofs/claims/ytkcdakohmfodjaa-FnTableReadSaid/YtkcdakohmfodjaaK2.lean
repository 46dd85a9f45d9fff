/-
  The kinds of the methods' arguments: the program's own answers, part 2.
-/
import Derived.Test.YtkcdakohmfodjaaWc
namespace Go.Proofs.Ytkcdakohmfodjaa
open Go.RowKit

theorem ZZKinds_16 (w : World) : Calls Try.prog 26 #[.int .u16 20, .int .u16 20] w fun e w' => e = .returned (.tuple #[.slice (some ⟨w.heap.size, 0, none⟩) 1 1, .bool true]) ∧ w' = w.alloc (.cells (intCells [6]).toArray 3) :=
  calls_straight Try.func26 rfl (by kernel_rfl)
theorem ZZKinds_17 (w : World) : Calls Try.prog 26 #[.int .u16 20, .int .u16 21] w fun e w' => e = .returned (.tuple #[.slice (some ⟨w.heap.size, 0, none⟩) 1 1, .bool true]) ∧ w' = w.alloc (.cells (intCells [6]).toArray 3) :=
  calls_straight Try.func26 rfl (by kernel_rfl)
theorem ZZKinds_18 (w : World) : Calls Try.prog 26 #[.int .u16 20, .int .u16 40] w fun e w' => e = .returned (.tuple #[.slice (some ⟨w.heap.size, 0, none⟩) 4 4, .bool true]) ∧ w' = w.alloc (.cells (intCells [1, 4, 1, 1]).toArray 3) :=
  calls_straight Try.func26 rfl (by kernel_rfl)
theorem ZZKinds_19 (w : World) : Calls Try.prog 26 #[.int .u16 20, .int .u16 41] w fun e w' => e = .returned (.tuple #[.slice (some ⟨w.heap.size, 0, none⟩) 0 0, .bool true]) ∧ w' = w.alloc (.cells (intCells []).toArray 3) :=
  calls_straight Try.func26 rfl (by kernel_rfl)
theorem ZZKinds_20 (w : World) : Calls Try.prog 26 #[.int .u16 40, .int .u16 10] w fun e w' => e = .returned (.tuple #[.slice (some ⟨w.heap.size, 0, none⟩) 8 8, .bool true]) ∧ w' = w.alloc (.cells (intCells [4, 4, 6, 6, 6, 6, 6, 7]).toArray 3) :=
  calls_straight Try.func26 rfl (by kernel_rfl)
theorem ZZKinds_21 (w : World) : Calls Try.prog 26 #[.int .u16 40, .int .u16 11] w fun e w' => e = .returned (.tuple #[.slice (some ⟨w.heap.size, 0, none⟩) 0 0, .bool true]) ∧ w' = w.alloc (.cells (intCells []).toArray 3) :=
  calls_straight Try.func26 rfl (by kernel_rfl)
theorem ZZKinds_22 (w : World) : Calls Try.prog 26 #[.int .u16 40, .int .u16 20] w fun e w' => e = .returned (.tuple #[.slice (some ⟨w.heap.size, 0, none⟩) 3 3, .bool true]) ∧ w' = w.alloc (.cells (intCells [4, 6, 6]).toArray 3) :=
  calls_straight Try.func26 rfl (by kernel_rfl)
theorem ZZKinds_23 (w : World) : Calls Try.prog 26 #[.int .u16 40, .int .u16 21] w fun e w' => e = .returned (.tuple #[.slice (some ⟨w.heap.size, 0, none⟩) 0 0, .bool true]) ∧ w' = w.alloc (.cells (intCells []).toArray 3) :=
  calls_straight Try.func26 rfl (by kernel_rfl)
theorem ZZKinds_24 (w : World) : Calls Try.prog 26 #[.int .u16 40, .int .u16 30] w fun e w' => e = .returned (.tuple #[.slice (some ⟨w.heap.size, 0, none⟩) 5 5, .bool true]) ∧ w' = w.alloc (.cells (intCells [4, 4, 4, 6, 7]).toArray 3) :=
  calls_straight Try.func26 rfl (by kernel_rfl)
theorem ZZKinds_25 (w : World) : Calls Try.prog 26 #[.int .u16 40, .int .u16 31] w fun e w' => e = .returned (.tuple #[.slice (some ⟨w.heap.size, 0, none⟩) 0 0, .bool true]) ∧ w' = w.alloc (.cells (intCells []).toArray 3) :=
  calls_straight Try.func26 rfl (by kernel_rfl)
theorem ZZKinds_26 (w : World) : Calls Try.prog 26 #[.int .u16 40, .int .u16 40] w fun e w' => e = .returned (.tuple #[.slice (some ⟨w.heap.size, 0, none⟩) 5 5, .bool true]) ∧ w' = w.alloc (.cells (intCells [4, 4, 4, 6, 7]).toArray 3) :=
  calls_straight Try.func26 rfl (by kernel_rfl)
theorem ZZKinds_27 (w : World) : Calls Try.prog 26 #[.int .u16 40, .int .u16 51] w fun e w' => e = .returned (.tuple #[.slice (some ⟨w.heap.size, 0, none⟩) 0 0, .bool true]) ∧ w' = w.alloc (.cells (intCells []).toArray 3) :=
  calls_straight Try.func26 rfl (by kernel_rfl)
theorem ZZKinds_28 (w : World) : Calls Try.prog 26 #[.int .u16 50, .int .u16 10] w fun e w' => e = .returned (.tuple #[.slice (some ⟨w.heap.size, 0, none⟩) 7 7, .bool true]) ∧ w' = w.alloc (.cells (intCells [4, 6, 6, 6, 6, 6, 7]).toArray 3) :=
  calls_straight Try.func26 rfl (by kernel_rfl)
theorem ZZKinds_29 (w : World) : Calls Try.prog 26 #[.int .u16 50, .int .u16 11] w fun e w' => e = .returned (.tuple #[.slice (some ⟨w.heap.size, 0, none⟩) 3 3, .bool true]) ∧ w' = w.alloc (.cells (intCells [4, 2, 2]).toArray 3) :=
  calls_straight Try.func26 rfl (by kernel_rfl)
theorem ZZKinds_30 (w : World) : Calls Try.prog 26 #[.int .u16 50, .int .u16 20] w fun e w' => e = .returned (.tuple #[.slice (some ⟨w.heap.size, 0, none⟩) 5 5, .bool true]) ∧ w' = w.alloc (.cells (intCells [4, 4, 4, 6, 7]).toArray 3) :=
  calls_straight Try.func26 rfl (by kernel_rfl)
theorem ZZKinds_31 (w : World) : Calls Try.prog 26 #[.int .u16 50, .int .u16 21] w fun e w' => e = .returned (.tuple #[.slice (some ⟨w.heap.size, 0, none⟩) 0 0, .bool true]) ∧ w' = w.alloc (.cells (intCells []).toArray 3) :=
  calls_straight Try.func26 rfl (by kernel_rfl)

end Go.Proofs.Ytkcdakohmfodjaa
