/-
  The kinds of the methods' arguments: the program's own answers, part 1.
-/
import Derived.Test.YtkcdakohmfodjaaWc
namespace Go.Proofs.Ytkcdakohmfodjaa
open Go.RowKit

theorem ZZKinds_0 (w : World) : Calls Try.prog 26 #[.int .u16 10, .int .u16 10] w fun e w' => e = .returned (.tuple #[.slice (some ⟨w.heap.size, 0, none⟩) 5 5, .bool true]) ∧ w' = w.alloc (.cells (intCells [0, 0, 7, 5, 5]).toArray 3) :=
  calls_straight Try.func26 rfl (by kernel_rfl)
theorem ZZKinds_1 (w : World) : Calls Try.prog 26 #[.int .u16 10, .int .u16 11] w fun e w' => e = .returned (.tuple #[.slice (some ⟨w.heap.size, 0, none⟩) 4 4, .bool true]) ∧ w' = w.alloc (.cells (intCells [7, 4, 5, 4]).toArray 3) :=
  calls_straight Try.func26 rfl (by kernel_rfl)
theorem ZZKinds_2 (w : World) : Calls Try.prog 26 #[.int .u16 10, .int .u16 20] w fun e w' => e = .returned (.tuple #[.slice (some ⟨w.heap.size, 0, none⟩) 1 1, .bool true]) ∧ w' = w.alloc (.cells (intCells [5]).toArray 3) :=
  calls_straight Try.func26 rfl (by kernel_rfl)
theorem ZZKinds_3 (w : World) : Calls Try.prog 26 #[.int .u16 10, .int .u16 21] w fun e w' => e = .returned (.tuple #[.slice (some ⟨w.heap.size, 0, none⟩) 1 1, .bool true]) ∧ w' = w.alloc (.cells (intCells [5]).toArray 3) :=
  calls_straight Try.func26 rfl (by kernel_rfl)
theorem ZZKinds_4 (w : World) : Calls Try.prog 26 #[.int .u16 10, .int .u16 30] w fun e w' => e = .returned (.tuple #[.slice (some ⟨w.heap.size, 0, none⟩) 3 3, .bool true]) ∧ w' = w.alloc (.cells (intCells [1, 2, 1]).toArray 3) :=
  calls_straight Try.func26 rfl (by kernel_rfl)
theorem ZZKinds_5 (w : World) : Calls Try.prog 26 #[.int .u16 10, .int .u16 31] w fun e w' => e = .returned (.tuple #[.slice (some ⟨w.heap.size, 0, none⟩) 3 3, .bool true]) ∧ w' = w.alloc (.cells (intCells [1, 2, 1]).toArray 3) :=
  calls_straight Try.func26 rfl (by kernel_rfl)
theorem ZZKinds_6 (w : World) : Calls Try.prog 26 #[.int .u16 10, .int .u16 40] w fun e w' => e = .returned (.tuple #[.slice (some ⟨w.heap.size, 0, none⟩) 1 1, .bool true]) ∧ w' = w.alloc (.cells (intCells [4]).toArray 3) :=
  calls_straight Try.func26 rfl (by kernel_rfl)
theorem ZZKinds_7 (w : World) : Calls Try.prog 26 #[.int .u16 10, .int .u16 41] w fun e w' => e = .returned (.tuple #[.slice (some ⟨w.heap.size, 0, none⟩) 0 0, .bool true]) ∧ w' = w.alloc (.cells (intCells []).toArray 3) :=
  calls_straight Try.func26 rfl (by kernel_rfl)
theorem ZZKinds_8 (w : World) : Calls Try.prog 26 #[.int .u16 10, .int .u16 50] w fun e w' => e = .returned (.tuple #[.slice (some ⟨w.heap.size, 0, none⟩) 4 4, .bool true]) ∧ w' = w.alloc (.cells (intCells [1, 4, 1, 1]).toArray 3) :=
  calls_straight Try.func26 rfl (by kernel_rfl)
theorem ZZKinds_9 (w : World) : Calls Try.prog 26 #[.int .u16 10, .int .u16 51] w fun e w' => e = .returned (.tuple #[.slice (some ⟨w.heap.size, 0, none⟩) 0 0, .bool true]) ∧ w' = w.alloc (.cells (intCells []).toArray 3) :=
  calls_straight Try.func26 rfl (by kernel_rfl)
theorem ZZKinds_10 (w : World) : Calls Try.prog 26 #[.int .u16 10, .int .u16 60] w fun e w' => e = .returned (.tuple #[.slice (some ⟨w.heap.size, 0, none⟩) 1 1, .bool true]) ∧ w' = w.alloc (.cells (intCells [4]).toArray 3) :=
  calls_straight Try.func26 rfl (by kernel_rfl)
theorem ZZKinds_11 (w : World) : Calls Try.prog 26 #[.int .u16 10, .int .u16 61] w fun e w' => e = .returned (.tuple #[.slice (some ⟨w.heap.size, 0, none⟩) 0 0, .bool true]) ∧ w' = w.alloc (.cells (intCells []).toArray 3) :=
  calls_straight Try.func26 rfl (by kernel_rfl)
theorem ZZKinds_12 (w : World) : Calls Try.prog 26 #[.int .u16 10, .int .u16 70] w fun e w' => e = .returned (.tuple #[.slice (some ⟨w.heap.size, 0, none⟩) 2 2, .bool true]) ∧ w' = w.alloc (.cells (intCells [5, 4]).toArray 3) :=
  calls_straight Try.func26 rfl (by kernel_rfl)
theorem ZZKinds_13 (w : World) : Calls Try.prog 26 #[.int .u16 10, .int .u16 71] w fun e w' => e = .returned (.tuple #[.slice (some ⟨w.heap.size, 0, none⟩) 0 0, .bool true]) ∧ w' = w.alloc (.cells (intCells []).toArray 3) :=
  calls_straight Try.func26 rfl (by kernel_rfl)
theorem ZZKinds_14 (w : World) : Calls Try.prog 26 #[.int .u16 20, .int .u16 10] w fun e w' => e = .returned (.tuple #[.slice (some ⟨w.heap.size, 0, none⟩) 0 0, .bool true]) ∧ w' = w.alloc (.cells (intCells []).toArray 3) :=
  calls_straight Try.func26 rfl (by kernel_rfl)
theorem ZZKinds_15 (w : World) : Calls Try.prog 26 #[.int .u16 20, .int .u16 11] w fun e w' => e = .returned (.tuple #[.slice (some ⟨w.heap.size, 0, none⟩) 0 0, .bool true]) ∧ w' = w.alloc (.cells (intCells []).toArray 3) :=
  calls_straight Try.func26 rfl (by kernel_rfl)

end Go.Proofs.Ytkcdakohmfodjaa
