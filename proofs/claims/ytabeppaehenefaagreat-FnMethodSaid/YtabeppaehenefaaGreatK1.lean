/-
  The kinds of the methods' arguments: the program's own answers, part 1.
  The kinds of the methods' arguments: the program's own answers, part 2.
  The kinds of the methods' arguments: the program's own answers, part 3.
  The kinds of the methods' arguments: the program's own answers, part 4.
-/
import Derived.Test.YtabeppaehenefaaGreatWc
namespace Go.Proofs.YtabeppaehenefaaGreat
open Go.RowKit

theorem ZZKinds_0 (w : World) : Calls Tryz.prog 32 #[.int .u16 10, .int .u16 10] w fun e w' => e = .returned (.tuple #[.slice (some ⟨w.heap.size, 0, none⟩) 5 5, .bool true]) ∧ w' = w.alloc (.cells (intCells [0, 0, 7, 5, 5]).toArray 3) :=
  calls_straight Tryz.func32 rfl (by kernel_rfl)
theorem ZZKinds_1 (w : World) : Calls Tryz.prog 32 #[.int .u16 10, .int .u16 11] w fun e w' => e = .returned (.tuple #[.slice (some ⟨w.heap.size, 0, none⟩) 4 4, .bool true]) ∧ w' = w.alloc (.cells (intCells [7, 4, 5, 4]).toArray 3) :=
  calls_straight Tryz.func32 rfl (by kernel_rfl)
theorem ZZKinds_2 (w : World) : Calls Tryz.prog 32 #[.int .u16 10, .int .u16 20] w fun e w' => e = .returned (.tuple #[.slice (some ⟨w.heap.size, 0, none⟩) 1 1, .bool true]) ∧ w' = w.alloc (.cells (intCells [5]).toArray 3) :=
  calls_straight Tryz.func32 rfl (by kernel_rfl)
theorem ZZKinds_3 (w : World) : Calls Tryz.prog 32 #[.int .u16 10, .int .u16 21] w fun e w' => e = .returned (.tuple #[.slice (some ⟨w.heap.size, 0, none⟩) 1 1, .bool true]) ∧ w' = w.alloc (.cells (intCells [5]).toArray 3) :=
  calls_straight Tryz.func32 rfl (by kernel_rfl)
theorem ZZKinds_4 (w : World) : Calls Tryz.prog 32 #[.int .u16 10, .int .u16 30] w fun e w' => e = .returned (.tuple #[.slice (some ⟨w.heap.size, 0, none⟩) 3 3, .bool true]) ∧ w' = w.alloc (.cells (intCells [1, 2, 1]).toArray 3) :=
  calls_straight Tryz.func32 rfl (by kernel_rfl)
theorem ZZKinds_5 (w : World) : Calls Tryz.prog 32 #[.int .u16 10, .int .u16 31] w fun e w' => e = .returned (.tuple #[.slice (some ⟨w.heap.size, 0, none⟩) 3 3, .bool true]) ∧ w' = w.alloc (.cells (intCells [1, 2, 1]).toArray 3) :=
  calls_straight Tryz.func32 rfl (by kernel_rfl)
theorem ZZKinds_6 (w : World) : Calls Tryz.prog 32 #[.int .u16 10, .int .u16 40] w fun e w' => e = .returned (.tuple #[.slice (some ⟨w.heap.size, 0, none⟩) 1 1, .bool true]) ∧ w' = w.alloc (.cells (intCells [4]).toArray 3) :=
  calls_straight Tryz.func32 rfl (by kernel_rfl)
theorem ZZKinds_7 (w : World) : Calls Tryz.prog 32 #[.int .u16 10, .int .u16 41] w fun e w' => e = .returned (.tuple #[.slice (some ⟨w.heap.size, 0, none⟩) 0 0, .bool true]) ∧ w' = w.alloc (.cells (intCells []).toArray 3) :=
  calls_straight Tryz.func32 rfl (by kernel_rfl)
theorem ZZKinds_8 (w : World) : Calls Tryz.prog 32 #[.int .u16 10, .int .u16 50] w fun e w' => e = .returned (.tuple #[.slice (some ⟨w.heap.size, 0, none⟩) 4 4, .bool true]) ∧ w' = w.alloc (.cells (intCells [1, 4, 1, 1]).toArray 3) :=
  calls_straight Tryz.func32 rfl (by kernel_rfl)
theorem ZZKinds_9 (w : World) : Calls Tryz.prog 32 #[.int .u16 10, .int .u16 51] w fun e w' => e = .returned (.tuple #[.slice (some ⟨w.heap.size, 0, none⟩) 0 0, .bool true]) ∧ w' = w.alloc (.cells (intCells []).toArray 3) :=
  calls_straight Tryz.func32 rfl (by kernel_rfl)
theorem ZZKinds_10 (w : World) : Calls Tryz.prog 32 #[.int .u16 10, .int .u16 60] w fun e w' => e = .returned (.tuple #[.slice (some ⟨w.heap.size, 0, none⟩) 1 1, .bool true]) ∧ w' = w.alloc (.cells (intCells [4]).toArray 3) :=
  calls_straight Tryz.func32 rfl (by kernel_rfl)
theorem ZZKinds_11 (w : World) : Calls Tryz.prog 32 #[.int .u16 10, .int .u16 61] w fun e w' => e = .returned (.tuple #[.slice (some ⟨w.heap.size, 0, none⟩) 0 0, .bool true]) ∧ w' = w.alloc (.cells (intCells []).toArray 3) :=
  calls_straight Tryz.func32 rfl (by kernel_rfl)
theorem ZZKinds_12 (w : World) : Calls Tryz.prog 32 #[.int .u16 10, .int .u16 70] w fun e w' => e = .returned (.tuple #[.slice (some ⟨w.heap.size, 0, none⟩) 2 2, .bool true]) ∧ w' = w.alloc (.cells (intCells [5, 4]).toArray 3) :=
  calls_straight Tryz.func32 rfl (by kernel_rfl)
theorem ZZKinds_13 (w : World) : Calls Tryz.prog 32 #[.int .u16 10, .int .u16 71] w fun e w' => e = .returned (.tuple #[.slice (some ⟨w.heap.size, 0, none⟩) 0 0, .bool true]) ∧ w' = w.alloc (.cells (intCells []).toArray 3) :=
  calls_straight Tryz.func32 rfl (by kernel_rfl)
theorem ZZKinds_14 (w : World) : Calls Tryz.prog 32 #[.int .u16 20, .int .u16 10] w fun e w' => e = .returned (.tuple #[.slice (some ⟨w.heap.size, 0, none⟩) 0 0, .bool true]) ∧ w' = w.alloc (.cells (intCells []).toArray 3) :=
  calls_straight Tryz.func32 rfl (by kernel_rfl)
theorem ZZKinds_15 (w : World) : Calls Tryz.prog 32 #[.int .u16 20, .int .u16 11] w fun e w' => e = .returned (.tuple #[.slice (some ⟨w.heap.size, 0, none⟩) 0 0, .bool true]) ∧ w' = w.alloc (.cells (intCells []).toArray 3) :=
  calls_straight Tryz.func32 rfl (by kernel_rfl)

end Go.Proofs.YtabeppaehenefaaGreat

namespace Go.Proofs.YtabeppaehenefaaGreat
open Go.RowKit

theorem ZZKinds_16 (w : World) : Calls Tryz.prog 32 #[.int .u16 20, .int .u16 20] w fun e w' => e = .returned (.tuple #[.slice (some ⟨w.heap.size, 0, none⟩) 1 1, .bool true]) ∧ w' = w.alloc (.cells (intCells [6]).toArray 3) :=
  calls_straight Tryz.func32 rfl (by kernel_rfl)
theorem ZZKinds_17 (w : World) : Calls Tryz.prog 32 #[.int .u16 20, .int .u16 21] w fun e w' => e = .returned (.tuple #[.slice (some ⟨w.heap.size, 0, none⟩) 1 1, .bool true]) ∧ w' = w.alloc (.cells (intCells [6]).toArray 3) :=
  calls_straight Tryz.func32 rfl (by kernel_rfl)
theorem ZZKinds_18 (w : World) : Calls Tryz.prog 32 #[.int .u16 20, .int .u16 40] w fun e w' => e = .returned (.tuple #[.slice (some ⟨w.heap.size, 0, none⟩) 4 4, .bool true]) ∧ w' = w.alloc (.cells (intCells [1, 4, 1, 1]).toArray 3) :=
  calls_straight Tryz.func32 rfl (by kernel_rfl)
theorem ZZKinds_19 (w : World) : Calls Tryz.prog 32 #[.int .u16 20, .int .u16 41] w fun e w' => e = .returned (.tuple #[.slice (some ⟨w.heap.size, 0, none⟩) 0 0, .bool true]) ∧ w' = w.alloc (.cells (intCells []).toArray 3) :=
  calls_straight Tryz.func32 rfl (by kernel_rfl)
theorem ZZKinds_20 (w : World) : Calls Tryz.prog 32 #[.int .u16 40, .int .u16 10] w fun e w' => e = .returned (.tuple #[.slice (some ⟨w.heap.size, 0, none⟩) 8 8, .bool true]) ∧ w' = w.alloc (.cells (intCells [4, 4, 6, 6, 6, 6, 6, 7]).toArray 3) :=
  calls_straight Tryz.func32 rfl (by kernel_rfl)
theorem ZZKinds_21 (w : World) : Calls Tryz.prog 32 #[.int .u16 40, .int .u16 11] w fun e w' => e = .returned (.tuple #[.slice (some ⟨w.heap.size, 0, none⟩) 0 0, .bool true]) ∧ w' = w.alloc (.cells (intCells []).toArray 3) :=
  calls_straight Tryz.func32 rfl (by kernel_rfl)
theorem ZZKinds_22 (w : World) : Calls Tryz.prog 32 #[.int .u16 40, .int .u16 20] w fun e w' => e = .returned (.tuple #[.slice (some ⟨w.heap.size, 0, none⟩) 3 3, .bool true]) ∧ w' = w.alloc (.cells (intCells [4, 6, 6]).toArray 3) :=
  calls_straight Tryz.func32 rfl (by kernel_rfl)
theorem ZZKinds_23 (w : World) : Calls Tryz.prog 32 #[.int .u16 40, .int .u16 21] w fun e w' => e = .returned (.tuple #[.slice (some ⟨w.heap.size, 0, none⟩) 0 0, .bool true]) ∧ w' = w.alloc (.cells (intCells []).toArray 3) :=
  calls_straight Tryz.func32 rfl (by kernel_rfl)
theorem ZZKinds_24 (w : World) : Calls Tryz.prog 32 #[.int .u16 40, .int .u16 30] w fun e w' => e = .returned (.tuple #[.slice (some ⟨w.heap.size, 0, none⟩) 5 5, .bool true]) ∧ w' = w.alloc (.cells (intCells [4, 4, 4, 6, 7]).toArray 3) :=
  calls_straight Tryz.func32 rfl (by kernel_rfl)
theorem ZZKinds_25 (w : World) : Calls Tryz.prog 32 #[.int .u16 40, .int .u16 31] w fun e w' => e = .returned (.tuple #[.slice (some ⟨w.heap.size, 0, none⟩) 0 0, .bool true]) ∧ w' = w.alloc (.cells (intCells []).toArray 3) :=
  calls_straight Tryz.func32 rfl (by kernel_rfl)
theorem ZZKinds_26 (w : World) : Calls Tryz.prog 32 #[.int .u16 40, .int .u16 40] w fun e w' => e = .returned (.tuple #[.slice (some ⟨w.heap.size, 0, none⟩) 5 5, .bool true]) ∧ w' = w.alloc (.cells (intCells [4, 4, 4, 6, 7]).toArray 3) :=
  calls_straight Tryz.func32 rfl (by kernel_rfl)
theorem ZZKinds_27 (w : World) : Calls Tryz.prog 32 #[.int .u16 40, .int .u16 51] w fun e w' => e = .returned (.tuple #[.slice (some ⟨w.heap.size, 0, none⟩) 0 0, .bool true]) ∧ w' = w.alloc (.cells (intCells []).toArray 3) :=
  calls_straight Tryz.func32 rfl (by kernel_rfl)
theorem ZZKinds_28 (w : World) : Calls Tryz.prog 32 #[.int .u16 50, .int .u16 10] w fun e w' => e = .returned (.tuple #[.slice (some ⟨w.heap.size, 0, none⟩) 7 7, .bool true]) ∧ w' = w.alloc (.cells (intCells [4, 6, 6, 6, 6, 6, 7]).toArray 3) :=
  calls_straight Tryz.func32 rfl (by kernel_rfl)
theorem ZZKinds_29 (w : World) : Calls Tryz.prog 32 #[.int .u16 50, .int .u16 11] w fun e w' => e = .returned (.tuple #[.slice (some ⟨w.heap.size, 0, none⟩) 3 3, .bool true]) ∧ w' = w.alloc (.cells (intCells [4, 2, 2]).toArray 3) :=
  calls_straight Tryz.func32 rfl (by kernel_rfl)
theorem ZZKinds_30 (w : World) : Calls Tryz.prog 32 #[.int .u16 50, .int .u16 20] w fun e w' => e = .returned (.tuple #[.slice (some ⟨w.heap.size, 0, none⟩) 5 5, .bool true]) ∧ w' = w.alloc (.cells (intCells [4, 4, 4, 6, 7]).toArray 3) :=
  calls_straight Tryz.func32 rfl (by kernel_rfl)
theorem ZZKinds_31 (w : World) : Calls Tryz.prog 32 #[.int .u16 50, .int .u16 21] w fun e w' => e = .returned (.tuple #[.slice (some ⟨w.heap.size, 0, none⟩) 0 0, .bool true]) ∧ w' = w.alloc (.cells (intCells []).toArray 3) :=
  calls_straight Tryz.func32 rfl (by kernel_rfl)

end Go.Proofs.YtabeppaehenefaaGreat

namespace Go.Proofs.YtabeppaehenefaaGreat
open Go.RowKit

theorem ZZKinds_32 (w : World) : Calls Tryz.prog 32 #[.int .u16 50, .int .u16 50] w fun e w' => e = .returned (.tuple #[.slice (some ⟨w.heap.size, 0, none⟩) 4 4, .bool true]) ∧ w' = w.alloc (.cells (intCells [4, 4, 4, 7]).toArray 3) :=
  calls_straight Tryz.func32 rfl (by kernel_rfl)
theorem ZZKinds_33 (w : World) : Calls Tryz.prog 32 #[.int .u16 50, .int .u16 51] w fun e w' => e = .returned (.tuple #[.slice (some ⟨w.heap.size, 0, none⟩) 0 0, .bool true]) ∧ w' = w.alloc (.cells (intCells []).toArray 3) :=
  calls_straight Tryz.func32 rfl (by kernel_rfl)
theorem ZZKinds_34 (w : World) : Calls Tryz.prog 32 #[.int .u16 50, .int .u16 30] w fun e w' => e = .returned (.tuple #[.slice (some ⟨w.heap.size, 0, none⟩) 2 2, .bool true]) ∧ w' = w.alloc (.cells (intCells [4, 6]).toArray 3) :=
  calls_straight Tryz.func32 rfl (by kernel_rfl)
theorem ZZKinds_35 (w : World) : Calls Tryz.prog 32 #[.int .u16 50, .int .u16 31] w fun e w' => e = .returned (.tuple #[.slice (some ⟨w.heap.size, 0, none⟩) 1 1, .bool true]) ∧ w' = w.alloc (.cells (intCells [2]).toArray 3) :=
  calls_straight Tryz.func32 rfl (by kernel_rfl)
theorem ZZKinds_36 (w : World) : Calls Tryz.prog 32 #[.int .u16 50, .int .u16 40] w fun e w' => e = .returned (.tuple #[.slice (some ⟨w.heap.size, 0, none⟩) 4 4, .bool true]) ∧ w' = w.alloc (.cells (intCells [4, 6, 6, 6]).toArray 3) :=
  calls_straight Tryz.func32 rfl (by kernel_rfl)
theorem ZZKinds_37 (w : World) : Calls Tryz.prog 32 #[.int .u16 50, .int .u16 41] w fun e w' => e = .returned (.tuple #[.slice (some ⟨w.heap.size, 0, none⟩) 1 1, .bool true]) ∧ w' = w.alloc (.cells (intCells [2]).toArray 3) :=
  calls_straight Tryz.func32 rfl (by kernel_rfl)
theorem ZZKinds_38 (w : World) : Calls Tryz.prog 32 #[.int .u16 60, .int .u16 10] w fun e w' => e = .returned (.tuple #[.slice (some ⟨w.heap.size, 0, none⟩) 3 3, .bool true]) ∧ w' = w.alloc (.cells (intCells [2, 1, 6]).toArray 3) :=
  calls_straight Tryz.func32 rfl (by kernel_rfl)
theorem ZZKinds_39 (w : World) : Calls Tryz.prog 32 #[.int .u16 60, .int .u16 11] w fun e w' => e = .returned (.tuple #[.slice (some ⟨w.heap.size, 0, none⟩) 0 0, .bool true]) ∧ w' = w.alloc (.cells (intCells []).toArray 3) :=
  calls_straight Tryz.func32 rfl (by kernel_rfl)
theorem ZZKinds_40 (w : World) : Calls Tryz.prog 32 #[.int .u16 60, .int .u16 20] w fun e w' => e = .returned (.tuple #[.slice (some ⟨w.heap.size, 0, none⟩) 7 7, .bool true]) ∧ w' = w.alloc (.cells (intCells [4, 4, 6, 6, 6, 6, 7]).toArray 3) :=
  calls_straight Tryz.func32 rfl (by kernel_rfl)
theorem ZZKinds_41 (w : World) : Calls Tryz.prog 32 #[.int .u16 60, .int .u16 21] w fun e w' => e = .returned (.tuple #[.slice (some ⟨w.heap.size, 0, none⟩) 1 1, .bool true]) ∧ w' = w.alloc (.cells (intCells [4]).toArray 3) :=
  calls_straight Tryz.func32 rfl (by kernel_rfl)
theorem ZZKinds_42 (w : World) : Calls Tryz.prog 32 #[.int .u16 60, .int .u16 30] w fun e w' => e = .returned (.tuple #[.slice (some ⟨w.heap.size, 0, none⟩) 2 2, .bool true]) ∧ w' = w.alloc (.cells (intCells [4, 6]).toArray 3) :=
  calls_straight Tryz.func32 rfl (by kernel_rfl)
theorem ZZKinds_43 (w : World) : Calls Tryz.prog 32 #[.int .u16 60, .int .u16 31] w fun e w' => e = .returned (.tuple #[.slice (some ⟨w.heap.size, 0, none⟩) 1 1, .bool true]) ∧ w' = w.alloc (.cells (intCells [4]).toArray 3) :=
  calls_straight Tryz.func32 rfl (by kernel_rfl)
theorem ZZKinds_44 (w : World) : Calls Tryz.prog 32 #[.int .u16 60, .int .u16 40] w fun e w' => e = .returned (.tuple #[.slice (some ⟨w.heap.size, 0, none⟩) 4 4, .bool true]) ∧ w' = w.alloc (.cells (intCells [4, 4, 6, 6]).toArray 3) :=
  calls_straight Tryz.func32 rfl (by kernel_rfl)
theorem ZZKinds_45 (w : World) : Calls Tryz.prog 32 #[.int .u16 60, .int .u16 50] w fun e w' => e = .returned (.tuple #[.slice (some ⟨w.heap.size, 0, none⟩) 4 4, .bool true]) ∧ w' = w.alloc (.cells (intCells [1, 4, 4, 4]).toArray 3) :=
  calls_straight Tryz.func32 rfl (by kernel_rfl)
theorem ZZKinds_46 (w : World) : Calls Tryz.prog 32 #[.int .u16 60, .int .u16 60] w fun e w' => e = .returned (.tuple #[.slice (some ⟨w.heap.size, 0, none⟩) 5 5, .bool true]) ∧ w' = w.alloc (.cells (intCells [4, 3, 6, 4, 4]).toArray 3) :=
  calls_straight Tryz.func32 rfl (by kernel_rfl)
theorem ZZKinds_47 (w : World) : Calls Tryz.prog 32 #[.int .u16 60, .int .u16 70] w fun e w' => e = .returned (.tuple #[.slice (some ⟨w.heap.size, 0, none⟩) 2 2, .bool true]) ∧ w' = w.alloc (.cells (intCells [4, 6]).toArray 3) :=
  calls_straight Tryz.func32 rfl (by kernel_rfl)

end Go.Proofs.YtabeppaehenefaaGreat

namespace Go.Proofs.YtabeppaehenefaaGreat
open Go.RowKit

theorem ZZKinds_48 (w : World) : Calls Tryz.prog 32 #[.int .u16 60, .int .u16 71] w fun e w' => e = .returned (.tuple #[.slice (some ⟨w.heap.size, 0, none⟩) 5 5, .bool true]) ∧ w' = w.alloc (.cells (intCells [3, 6, 4, 4, 2]).toArray 3) :=
  calls_straight Tryz.func32 rfl (by kernel_rfl)
theorem ZZKinds_49 (w : World) : Calls Tryz.prog 32 #[.int .u16 60, .int .u16 72] w fun e w' => e = .returned (.tuple #[.slice (some ⟨w.heap.size, 0, none⟩) 0 0, .bool true]) ∧ w' = w.alloc (.cells (intCells []).toArray 3) :=
  calls_straight Tryz.func32 rfl (by kernel_rfl)
theorem ZZKinds_50 (w : World) : Calls Tryz.prog 32 #[.int .u16 60, .int .u16 80] w fun e w' => e = .returned (.tuple #[.slice (some ⟨w.heap.size, 0, none⟩) 2 2, .bool true]) ∧ w' = w.alloc (.cells (intCells [3, 6]).toArray 3) :=
  calls_straight Tryz.func32 rfl (by kernel_rfl)
theorem ZZKinds_51 (w : World) : Calls Tryz.prog 32 #[.int .u16 60, .int .u16 90] w fun e w' => e = .returned (.tuple #[.slice (some ⟨w.heap.size, 0, none⟩) 2 2, .bool true]) ∧ w' = w.alloc (.cells (intCells [3, 6]).toArray 3) :=
  calls_straight Tryz.func32 rfl (by kernel_rfl)
theorem ZZKinds_52 (w : World) : Calls Tryz.prog 32 #[.int .u16 60, .int .u16 100] w fun e w' => e = .returned (.tuple #[.slice (some ⟨w.heap.size, 0, none⟩) 1 1, .bool true]) ∧ w' = w.alloc (.cells (intCells [6]).toArray 3) :=
  calls_straight Tryz.func32 rfl (by kernel_rfl)
theorem ZZKinds_53 (w : World) : Calls Tryz.prog 32 #[.int .u16 60, .int .u16 110] w fun e w' => e = .returned (.tuple #[.slice (some ⟨w.heap.size, 0, none⟩) 1 1, .bool true]) ∧ w' = w.alloc (.cells (intCells [6]).toArray 3) :=
  calls_straight Tryz.func32 rfl (by kernel_rfl)
theorem ZZKinds_54 (w : World) : Calls Tryz.prog 32 #[.int .u16 60, .int .u16 111] w fun e w' => e = .returned (.tuple #[.slice (some ⟨w.heap.size, 0, none⟩) 0 0, .bool true]) ∧ w' = w.alloc (.cells (intCells []).toArray 3) :=
  calls_straight Tryz.func32 rfl (by kernel_rfl)
theorem ZZKinds_55 (w : World) : Calls Tryz.prog 32 #[.int .u16 60, .int .u16 120] w fun e w' => e = .returned (.tuple #[.slice (some ⟨w.heap.size, 0, none⟩) 3 3, .bool true]) ∧ w' = w.alloc (.cells (intCells [3, 6, 6]).toArray 3) :=
  calls_straight Tryz.func32 rfl (by kernel_rfl)
theorem ZZKinds_56 (w : World) : Calls Tryz.prog 32 #[.int .u16 90, .int .u16 10] w fun e w' => e = .returned (.tuple #[.slice (some ⟨w.heap.size, 0, none⟩) 0 0, .bool true]) ∧ w' = w.alloc (.cells (intCells []).toArray 3) :=
  calls_straight Tryz.func32 rfl (by kernel_rfl)
theorem ZZKinds_57 (w : World) : Calls Tryz.prog 32 #[.int .u16 90, .int .u16 11] w fun e w' => e = .returned (.tuple #[.slice (some ⟨w.heap.size, 0, none⟩) 0 0, .bool true]) ∧ w' = w.alloc (.cells (intCells []).toArray 3) :=
  calls_straight Tryz.func32 rfl (by kernel_rfl)
theorem ZZKinds_58 (w : World) : Calls Tryz.prog 32 #[.int .u16 90, .int .u16 20] w fun e w' => e = .returned (.tuple #[.slice (some ⟨w.heap.size, 0, none⟩) 0 0, .bool true]) ∧ w' = w.alloc (.cells (intCells []).toArray 3) :=
  calls_straight Tryz.func32 rfl (by kernel_rfl)
theorem ZZKinds_59 (w : World) : Calls Tryz.prog 32 #[.int .u16 90, .int .u16 21] w fun e w' => e = .returned (.tuple #[.slice (some ⟨w.heap.size, 0, none⟩) 0 0, .bool true]) ∧ w' = w.alloc (.cells (intCells []).toArray 3) :=
  calls_straight Tryz.func32 rfl (by kernel_rfl)
theorem ZZKinds_60 (w : World) : Calls Tryz.prog 32 #[.int .u16 90, .int .u16 30] w fun e w' => e = .returned (.tuple #[.slice (some ⟨w.heap.size, 0, none⟩) 0 0, .bool true]) ∧ w' = w.alloc (.cells (intCells []).toArray 3) :=
  calls_straight Tryz.func32 rfl (by kernel_rfl)
theorem ZZKinds_61 (w : World) : Calls Tryz.prog 32 #[.int .u16 90, .int .u16 31] w fun e w' => e = .returned (.tuple #[.slice (some ⟨w.heap.size, 0, none⟩) 0 0, .bool true]) ∧ w' = w.alloc (.cells (intCells []).toArray 3) :=
  calls_straight Tryz.func32 rfl (by kernel_rfl)
theorem ZZKinds_62 (w : World) : Calls Tryz.prog 32 #[.int .u16 85, .int .u16 10] w fun e w' => e = .returned (.tuple #[.slice (some ⟨w.heap.size, 0, none⟩) 1 1, .bool true]) ∧ w' = w.alloc (.cells (intCells [6]).toArray 3) :=
  calls_straight Tryz.func32 rfl (by kernel_rfl)
theorem ZZKinds_63 (w : World) : Calls Tryz.prog 32 #[.int .u16 85, .int .u16 11] w fun e w' => e = .returned (.tuple #[.slice (some ⟨w.heap.size, 0, none⟩) 0 0, .bool true]) ∧ w' = w.alloc (.cells (intCells []).toArray 3) :=
  calls_straight Tryz.func32 rfl (by kernel_rfl)

end Go.Proofs.YtabeppaehenefaaGreat
