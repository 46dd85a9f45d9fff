/-
  The kinds of the methods' arguments: the program's own answers, part 4.
-/
import Derived.Test.YtkcdakohmfodjaaWc
namespace Go.Proofs.Ytkcdakohmfodjaa
open Go.RowKit

theorem ZZKinds_48 (w : World) : Calls Try.prog 26 #[.int .u16 60, .int .u16 71] w fun e w' => e = .returned (.tuple #[.slice (some ⟨w.heap.size, 0, none⟩) 5 5, .bool true]) ∧ w' = w.alloc (.cells (intCells [3, 6, 4, 4, 2]).toArray 3) :=
  calls_straight Try.func26 rfl (by kernel_rfl)
theorem ZZKinds_49 (w : World) : Calls Try.prog 26 #[.int .u16 60, .int .u16 72] w fun e w' => e = .returned (.tuple #[.slice (some ⟨w.heap.size, 0, none⟩) 0 0, .bool true]) ∧ w' = w.alloc (.cells (intCells []).toArray 3) :=
  calls_straight Try.func26 rfl (by kernel_rfl)
theorem ZZKinds_50 (w : World) : Calls Try.prog 26 #[.int .u16 60, .int .u16 80] w fun e w' => e = .returned (.tuple #[.slice (some ⟨w.heap.size, 0, none⟩) 2 2, .bool true]) ∧ w' = w.alloc (.cells (intCells [3, 6]).toArray 3) :=
  calls_straight Try.func26 rfl (by kernel_rfl)
theorem ZZKinds_51 (w : World) : Calls Try.prog 26 #[.int .u16 60, .int .u16 90] w fun e w' => e = .returned (.tuple #[.slice (some ⟨w.heap.size, 0, none⟩) 2 2, .bool true]) ∧ w' = w.alloc (.cells (intCells [3, 6]).toArray 3) :=
  calls_straight Try.func26 rfl (by kernel_rfl)
theorem ZZKinds_52 (w : World) : Calls Try.prog 26 #[.int .u16 60, .int .u16 100] w fun e w' => e = .returned (.tuple #[.slice (some ⟨w.heap.size, 0, none⟩) 1 1, .bool true]) ∧ w' = w.alloc (.cells (intCells [6]).toArray 3) :=
  calls_straight Try.func26 rfl (by kernel_rfl)
theorem ZZKinds_53 (w : World) : Calls Try.prog 26 #[.int .u16 60, .int .u16 110] w fun e w' => e = .returned (.tuple #[.slice (some ⟨w.heap.size, 0, none⟩) 1 1, .bool true]) ∧ w' = w.alloc (.cells (intCells [6]).toArray 3) :=
  calls_straight Try.func26 rfl (by kernel_rfl)
theorem ZZKinds_54 (w : World) : Calls Try.prog 26 #[.int .u16 60, .int .u16 111] w fun e w' => e = .returned (.tuple #[.slice (some ⟨w.heap.size, 0, none⟩) 0 0, .bool true]) ∧ w' = w.alloc (.cells (intCells []).toArray 3) :=
  calls_straight Try.func26 rfl (by kernel_rfl)
theorem ZZKinds_55 (w : World) : Calls Try.prog 26 #[.int .u16 60, .int .u16 120] w fun e w' => e = .returned (.tuple #[.slice (some ⟨w.heap.size, 0, none⟩) 3 3, .bool true]) ∧ w' = w.alloc (.cells (intCells [3, 6, 6]).toArray 3) :=
  calls_straight Try.func26 rfl (by kernel_rfl)
theorem ZZKinds_56 (w : World) : Calls Try.prog 26 #[.int .u16 90, .int .u16 10] w fun e w' => e = .returned (.tuple #[.slice (some ⟨w.heap.size, 0, none⟩) 0 0, .bool true]) ∧ w' = w.alloc (.cells (intCells []).toArray 3) :=
  calls_straight Try.func26 rfl (by kernel_rfl)
theorem ZZKinds_57 (w : World) : Calls Try.prog 26 #[.int .u16 90, .int .u16 11] w fun e w' => e = .returned (.tuple #[.slice (some ⟨w.heap.size, 0, none⟩) 0 0, .bool true]) ∧ w' = w.alloc (.cells (intCells []).toArray 3) :=
  calls_straight Try.func26 rfl (by kernel_rfl)
theorem ZZKinds_58 (w : World) : Calls Try.prog 26 #[.int .u16 90, .int .u16 20] w fun e w' => e = .returned (.tuple #[.slice (some ⟨w.heap.size, 0, none⟩) 0 0, .bool true]) ∧ w' = w.alloc (.cells (intCells []).toArray 3) :=
  calls_straight Try.func26 rfl (by kernel_rfl)
theorem ZZKinds_59 (w : World) : Calls Try.prog 26 #[.int .u16 90, .int .u16 21] w fun e w' => e = .returned (.tuple #[.slice (some ⟨w.heap.size, 0, none⟩) 0 0, .bool true]) ∧ w' = w.alloc (.cells (intCells []).toArray 3) :=
  calls_straight Try.func26 rfl (by kernel_rfl)
theorem ZZKinds_60 (w : World) : Calls Try.prog 26 #[.int .u16 90, .int .u16 30] w fun e w' => e = .returned (.tuple #[.slice (some ⟨w.heap.size, 0, none⟩) 0 0, .bool true]) ∧ w' = w.alloc (.cells (intCells []).toArray 3) :=
  calls_straight Try.func26 rfl (by kernel_rfl)
theorem ZZKinds_61 (w : World) : Calls Try.prog 26 #[.int .u16 90, .int .u16 31] w fun e w' => e = .returned (.tuple #[.slice (some ⟨w.heap.size, 0, none⟩) 0 0, .bool true]) ∧ w' = w.alloc (.cells (intCells []).toArray 3) :=
  calls_straight Try.func26 rfl (by kernel_rfl)
theorem ZZKinds_62 (w : World) : Calls Try.prog 26 #[.int .u16 85, .int .u16 10] w fun e w' => e = .returned (.tuple #[.slice (some ⟨w.heap.size, 0, none⟩) 1 1, .bool true]) ∧ w' = w.alloc (.cells (intCells [6]).toArray 3) :=
  calls_straight Try.func26 rfl (by kernel_rfl)
theorem ZZKinds_63 (w : World) : Calls Try.prog 26 #[.int .u16 85, .int .u16 11] w fun e w' => e = .returned (.tuple #[.slice (some ⟨w.heap.size, 0, none⟩) 0 0, .bool true]) ∧ w' = w.alloc (.cells (intCells []).toArray 3) :=
  calls_straight Try.func26 rfl (by kernel_rfl)

end Go.Proofs.Ytkcdakohmfodjaa
