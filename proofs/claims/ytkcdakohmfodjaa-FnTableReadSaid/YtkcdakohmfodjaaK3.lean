/-
  The kinds of the methods' arguments: the program's own answers, part 3.
-/
import Derived.Test.YtkcdakohmfodjaaWc
namespace Go.Proofs.Ytkcdakohmfodjaa
open Go.RowKit

theorem ZZKinds_32 (w : World) : Calls Try.prog 26 #[.int .u16 50, .int .u16 50] w fun e w' => e = .returned (.tuple #[.slice (some ⟨w.heap.size, 0, none⟩) 4 4, .bool true]) ∧ w' = w.alloc (.cells (intCells [4, 4, 4, 7]).toArray 3) :=
  calls_straight Try.func26 rfl (by kernel_rfl)
theorem ZZKinds_33 (w : World) : Calls Try.prog 26 #[.int .u16 50, .int .u16 51] w fun e w' => e = .returned (.tuple #[.slice (some ⟨w.heap.size, 0, none⟩) 0 0, .bool true]) ∧ w' = w.alloc (.cells (intCells []).toArray 3) :=
  calls_straight Try.func26 rfl (by kernel_rfl)
theorem ZZKinds_34 (w : World) : Calls Try.prog 26 #[.int .u16 50, .int .u16 30] w fun e w' => e = .returned (.tuple #[.slice (some ⟨w.heap.size, 0, none⟩) 2 2, .bool true]) ∧ w' = w.alloc (.cells (intCells [4, 6]).toArray 3) :=
  calls_straight Try.func26 rfl (by kernel_rfl)
theorem ZZKinds_35 (w : World) : Calls Try.prog 26 #[.int .u16 50, .int .u16 31] w fun e w' => e = .returned (.tuple #[.slice (some ⟨w.heap.size, 0, none⟩) 1 1, .bool true]) ∧ w' = w.alloc (.cells (intCells [2]).toArray 3) :=
  calls_straight Try.func26 rfl (by kernel_rfl)
theorem ZZKinds_36 (w : World) : Calls Try.prog 26 #[.int .u16 50, .int .u16 40] w fun e w' => e = .returned (.tuple #[.slice (some ⟨w.heap.size, 0, none⟩) 4 4, .bool true]) ∧ w' = w.alloc (.cells (intCells [4, 6, 6, 6]).toArray 3) :=
  calls_straight Try.func26 rfl (by kernel_rfl)
theorem ZZKinds_37 (w : World) : Calls Try.prog 26 #[.int .u16 50, .int .u16 41] w fun e w' => e = .returned (.tuple #[.slice (some ⟨w.heap.size, 0, none⟩) 1 1, .bool true]) ∧ w' = w.alloc (.cells (intCells [2]).toArray 3) :=
  calls_straight Try.func26 rfl (by kernel_rfl)
theorem ZZKinds_38 (w : World) : Calls Try.prog 26 #[.int .u16 60, .int .u16 10] w fun e w' => e = .returned (.tuple #[.slice (some ⟨w.heap.size, 0, none⟩) 3 3, .bool true]) ∧ w' = w.alloc (.cells (intCells [2, 1, 6]).toArray 3) :=
  calls_straight Try.func26 rfl (by kernel_rfl)
theorem ZZKinds_39 (w : World) : Calls Try.prog 26 #[.int .u16 60, .int .u16 11] w fun e w' => e = .returned (.tuple #[.slice (some ⟨w.heap.size, 0, none⟩) 0 0, .bool true]) ∧ w' = w.alloc (.cells (intCells []).toArray 3) :=
  calls_straight Try.func26 rfl (by kernel_rfl)
theorem ZZKinds_40 (w : World) : Calls Try.prog 26 #[.int .u16 60, .int .u16 20] w fun e w' => e = .returned (.tuple #[.slice (some ⟨w.heap.size, 0, none⟩) 7 7, .bool true]) ∧ w' = w.alloc (.cells (intCells [4, 4, 6, 6, 6, 6, 7]).toArray 3) :=
  calls_straight Try.func26 rfl (by kernel_rfl)
theorem ZZKinds_41 (w : World) : Calls Try.prog 26 #[.int .u16 60, .int .u16 21] w fun e w' => e = .returned (.tuple #[.slice (some ⟨w.heap.size, 0, none⟩) 1 1, .bool true]) ∧ w' = w.alloc (.cells (intCells [4]).toArray 3) :=
  calls_straight Try.func26 rfl (by kernel_rfl)
theorem ZZKinds_42 (w : World) : Calls Try.prog 26 #[.int .u16 60, .int .u16 30] w fun e w' => e = .returned (.tuple #[.slice (some ⟨w.heap.size, 0, none⟩) 2 2, .bool true]) ∧ w' = w.alloc (.cells (intCells [4, 6]).toArray 3) :=
  calls_straight Try.func26 rfl (by kernel_rfl)
theorem ZZKinds_43 (w : World) : Calls Try.prog 26 #[.int .u16 60, .int .u16 31] w fun e w' => e = .returned (.tuple #[.slice (some ⟨w.heap.size, 0, none⟩) 1 1, .bool true]) ∧ w' = w.alloc (.cells (intCells [4]).toArray 3) :=
  calls_straight Try.func26 rfl (by kernel_rfl)
theorem ZZKinds_44 (w : World) : Calls Try.prog 26 #[.int .u16 60, .int .u16 40] w fun e w' => e = .returned (.tuple #[.slice (some ⟨w.heap.size, 0, none⟩) 4 4, .bool true]) ∧ w' = w.alloc (.cells (intCells [4, 4, 6, 6]).toArray 3) :=
  calls_straight Try.func26 rfl (by kernel_rfl)
theorem ZZKinds_45 (w : World) : Calls Try.prog 26 #[.int .u16 60, .int .u16 50] w fun e w' => e = .returned (.tuple #[.slice (some ⟨w.heap.size, 0, none⟩) 4 4, .bool true]) ∧ w' = w.alloc (.cells (intCells [1, 4, 4, 4]).toArray 3) :=
  calls_straight Try.func26 rfl (by kernel_rfl)
theorem ZZKinds_46 (w : World) : Calls Try.prog 26 #[.int .u16 60, .int .u16 60] w fun e w' => e = .returned (.tuple #[.slice (some ⟨w.heap.size, 0, none⟩) 5 5, .bool true]) ∧ w' = w.alloc (.cells (intCells [4, 3, 6, 4, 4]).toArray 3) :=
  calls_straight Try.func26 rfl (by kernel_rfl)
theorem ZZKinds_47 (w : World) : Calls Try.prog 26 #[.int .u16 60, .int .u16 70] w fun e w' => e = .returned (.tuple #[.slice (some ⟨w.heap.size, 0, none⟩) 2 2, .bool true]) ∧ w' = w.alloc (.cells (intCells [4, 6]).toArray 3) :=
  calls_straight Try.func26 rfl (by kernel_rfl)

end Go.Proofs.Ytkcdakohmfodjaa
