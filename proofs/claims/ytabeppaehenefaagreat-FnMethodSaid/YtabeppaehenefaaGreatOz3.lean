/-
  FnMethod: ZZMethod method by method, part 3 (printed by a program).
-/
import Derived.Test.YtabeppaehenefaaGreatOd
namespace Go.Proofs.YtabeppaehenefaaGreat
open Go.RowKit
set_option linter.unusedVariables false

set_option maxRecDepth 100000 in
/-- ZZMethod: *basicCancel -/
theorem zz_basicCancel {w : World} {r c : Nat} (n0 n1 : Nat) (t0 t1 : ByteArray) (b0 b1 : Nat)  (hr : r < w.heap.size)
    (hc : ∀ j u, ([Value.int .i64 4, .int .u64 n0, .string t0, .map (some b0), .int .i64 6, .int .u64 n1, .string t1, .map (some b1)] : List Value)[j]? = some u → w.cell? ⟨r, j, none⟩ = some u) :
    Calls Tryz.prog 18 #[.int .u16 60, .int .u16 30, .slice (some ⟨r, 0, none⟩) 2 c] w (ZzPost w 211 213 (.string t0 :: .bool ((n1 : Int) != 0) :: []).toArray) := by
  refine zz_prefix (kinds := [4, 6]) (r := r) rfl (ZZKinds_42 w) (fun i hi => ⟨rfl, hr, ?_⟩) (by omega) (fun Q hQ a E => ?_)
  · have hx : i = 0 ∨ i = 1 := by omega
    rcases hx with rfl | rfl
    all_goals exact hc _ _ rfl
  · refine sw_to 42 (by decide) rfl (by decide +kernel) (fun a E => ?_) a E
    refine wp_seq ?_
    have d0_2 : ((w.alloc (.cells (intCells [4, 6]).toArray 3)).drew).cell? ⟨r, 2, none⟩ = some (.string t0) := (World.cell?_alloc_lt w _ ⟨r, 2, none⟩ hr).trans (hc 2 _ rfl)
    have d1_1 : ((w.alloc (.cells (intCells [4, 6]).toArray 3)).drew).cell? ⟨r, 5, none⟩ = some (.int .u64 n1) := (World.cell?_alloc_lt w _ ⟨r, 5, none⟩ hr).trans (hc 5 _ rfl)
    have hbel : Below w.heap.size w ((w.alloc (.cells (intCells [4, 6]).toArray 3)).drew) := ((Below.refl _ _).alloc (Nat.le_refl _) _).drew
    refine region_still_tail 10 (by kernel_rfl) (by kernel_rfl) ?_
    simp only [List.take_succ_cons, List.take_zero, List.drop_succ_cons, List.drop_zero]
    generalize (w.alloc (.cells (intCells [4, 6]).toArray 3)).drew = wX at d0_2 d1_1 hbel ⊢
    refine st_op E (op_move (E.get rfl)) (by decide) rfl (fun a E => ?_)
    refine st_op E (op_index 0 (E.get rfl) (by omega)) (by decide) rfl (fun a E => ?_)
    refine st_op E (op_field 2 (by omega) (E.get rfl)) (by decide) rfl (fun a E => ?_)
    refine st_op E (op_load 9 (by simp) (E.get rfl) d0_2) (by decide) rfl (fun a E => ?_)
    refine st_op E (op_move (E.get rfl)) (by decide) rfl (fun a E => ?_)
    refine st_op E (op_index 1 (E.get rfl) (by omega)) (by decide) rfl (fun a E => ?_)
    refine st_op E (op_field 1 (by omega) (E.get rfl)) (by decide) rfl (fun a E => ?_)
    refine st_op E (op_load 38 (by simp) (E.get rfl) d1_1) (by decide) rfl (fun a E => ?_)
    refine st_op E (op_ne (n := n1) (E.get rfl)) (by decide) rfl (fun a E => ?_)
    have e709 := E.get (i := 709) rfl
    have e714 := E.get (i := 714) rfl
    refine st_op E (op_build 213 #[(0, .string t0), (1, .bool ((n1 : Int) != 0))] (by simp [e709, e714]) (cells := (.string t0 :: .bool ((n1 : Int) != 0) :: []).toArray) (by kernel_rfl)) (by decide) rfl (fun a E => ?_)
    refine wpStill_nil ?_
    change wpList _ _ _ _ _ _
    refine lt_op E (op_box 213 (E.get rfl) (by go_simp)) (by decide) rfl (fun a E => ?_)
    refine lt_op E (op_iface 211 (E.get rfl) (by kernel_rfl)) (by decide) rfl (fun a E => ?_)
    refine lt_op E (op_assign (E.get rfl)) (by decide) rfl (fun a E => ?_)
    refine lt_op E (op_assign rfl) (by decide) rfl (fun a E => ?_)
    exact wp_ret (hQ _ _ (ret_ok E rfl rfl ⟨wX.heap.size, rfl, hbel.size, Blk.new wX 213 _, hbel.alloc hbel.size _⟩))

set_option maxRecDepth 100000 in
/-- ZZMethod: *basicCancelOk -/
theorem zz_basicCancelOk {w : World} {r c : Nat} (n0 : Nat) (t0 : ByteArray) (b0 : Nat)  (hr : r < w.heap.size)
    (hc : ∀ j u, ([Value.int .i64 4, .int .u64 n0, .string t0, .map (some b0)] : List Value)[j]? = some u → w.cell? ⟨r, j, none⟩ = some u) :
    Calls Tryz.prog 18 #[.int .u16 60, .int .u16 31, .slice (some ⟨r, 0, none⟩) 1 c] w (ZzPost w 214 215 (.string t0 :: []).toArray) := by
  refine zz_prefix (kinds := [4]) (r := r) rfl (ZZKinds_43 w) (fun i hi => ⟨rfl, hr, ?_⟩) (by omega) (fun Q hQ a E => ?_)
  · have hx : i = 0 := by omega
    rcases hx with rfl
    all_goals exact hc _ _ rfl
  · refine sw_to 43 (by decide) rfl (by decide +kernel) (fun a E => ?_) a E
    refine wp_seq ?_
    have d0_2 : ((w.alloc (.cells (intCells [4]).toArray 3))).cell? ⟨r, 2, none⟩ = some (.string t0) := (World.cell?_alloc_lt w _ ⟨r, 2, none⟩ hr).trans (hc 2 _ rfl)
    have hbel : Below w.heap.size w ((w.alloc (.cells (intCells [4]).toArray 3))) := ((Below.refl _ _).alloc (Nat.le_refl _) _)
    refine wp_region_list ?_
    generalize (w.alloc (.cells (intCells [4]).toArray 3)) = wX at d0_2 hbel ⊢
    refine lt_op E (op_move (E.get rfl)) (by decide) rfl (fun a E => ?_)
    refine lt_op E (op_index 0 (E.get rfl) (by omega)) (by decide) rfl (fun a E => ?_)
    refine lt_op E (op_field 2 (by omega) (E.get rfl)) (by decide) rfl (fun a E => ?_)
    refine lt_op E (op_load 9 (by simp) (E.get rfl) d0_2) (by decide) rfl (fun a E => ?_)
    have e724 := E.get (i := 724) rfl
    refine lt_op E (op_build 215 #[(0, .string t0)] (by simp [e724]) (cells := (.string t0 :: []).toArray) (by kernel_rfl)) (by decide) rfl (fun a E => ?_)
    refine lt_op E (op_box 215 (E.get rfl) (by go_simp)) (by decide) rfl (fun a E => ?_)
    refine lt_op E (op_iface 214 (E.get rfl) (by kernel_rfl)) (by decide) rfl (fun a E => ?_)
    refine lt_op E (op_assign (E.get rfl)) (by decide) rfl (fun a E => ?_)
    refine lt_op E (op_assign rfl) (by decide) rfl (fun a E => ?_)
    exact wp_ret (hQ _ _ (ret_ok E rfl rfl ⟨wX.heap.size, rfl, hbel.size, Blk.new wX 215 _, hbel.alloc hbel.size _⟩))

set_option maxRecDepth 100000 in
/-- ZZMethod: *basicPublish -/
theorem zz_basicPublish {w : World} {r c : Nat} (n0 n1 n2 n3 : Nat) (t0 t1 t2 t3 : ByteArray) (b0 b1 b2 b3 : Nat)  (hr : r < w.heap.size)
    (hc : ∀ j u, ([Value.int .i64 4, .int .u64 n0, .string t0, .map (some b0), .int .i64 4, .int .u64 n1, .string t1, .map (some b1), .int .i64 6, .int .u64 n2, .string t2, .map (some b2), .int .i64 6, .int .u64 n3, .string t3, .map (some b3)] : List Value)[j]? = some u → w.cell? ⟨r, j, none⟩ = some u) :
    Calls Tryz.prog 18 #[.int .u16 60, .int .u16 40, .slice (some ⟨r, 0, none⟩) 4 c] w (ZzPost w 216 223 (.int .u16 0 :: .string t0 :: .string t1 :: .bool ((n2 : Int) != 0) :: .bool ((n3 : Int) != 0) :: zprops).toArray) := by
  refine zz_prefix (kinds := [4, 4, 6, 6]) (r := r) rfl (ZZKinds_44 w) (fun i hi => ⟨rfl, hr, ?_⟩) (by omega) (fun Q hQ a E => ?_)
  · have hx : i = 0 ∨ i = 1 ∨ i = 2 ∨ i = 3 := by omega
    rcases hx with rfl | rfl | rfl | rfl
    all_goals exact hc _ _ rfl
  · refine sw_to 44 (by decide) rfl (by decide +kernel) (fun a E => ?_) a E
    refine wp_seq ?_
    have d0_2 : ((w.alloc (.cells (intCells [4, 4, 6, 6]).toArray 3)).drew).cell? ⟨r, 2, none⟩ = some (.string t0) := (World.cell?_alloc_lt w _ ⟨r, 2, none⟩ hr).trans (hc 2 _ rfl)
    have d1_2 : ((w.alloc (.cells (intCells [4, 4, 6, 6]).toArray 3)).drew).cell? ⟨r, 6, none⟩ = some (.string t1) := (World.cell?_alloc_lt w _ ⟨r, 6, none⟩ hr).trans (hc 6 _ rfl)
    have d2_1 : ((w.alloc (.cells (intCells [4, 4, 6, 6]).toArray 3)).drew).cell? ⟨r, 9, none⟩ = some (.int .u64 n2) := (World.cell?_alloc_lt w _ ⟨r, 9, none⟩ hr).trans (hc 9 _ rfl)
    have d3_1 : ((w.alloc (.cells (intCells [4, 4, 6, 6]).toArray 3)).drew).cell? ⟨r, 13, none⟩ = some (.int .u64 n3) := (World.cell?_alloc_lt w _ ⟨r, 13, none⟩ hr).trans (hc 13 _ rfl)
    have hbel : Below w.heap.size w ((w.alloc (.cells (intCells [4, 4, 6, 6]).toArray 3)).drew) := ((Below.refl _ _).alloc (Nat.le_refl _) _).drew
    refine region_still_tail 19 (by kernel_rfl) (by kernel_rfl) ?_
    simp only [List.take_succ_cons, List.take_zero, List.drop_succ_cons, List.drop_zero]
    generalize (w.alloc (.cells (intCells [4, 4, 6, 6]).toArray 3)).drew = wX at d0_2 d1_2 d2_1 d3_1 hbel ⊢
    refine st_op E (op_move (E.get rfl)) (by decide) rfl (fun a E => ?_)
    refine st_op E (op_index 0 (E.get rfl) (by omega)) (by decide) rfl (fun a E => ?_)
    refine st_op E (op_field 2 (by omega) (E.get rfl)) (by decide) rfl (fun a E => ?_)
    refine st_op E (op_load 9 (by simp) (E.get rfl) d0_2) (by decide) rfl (fun a E => ?_)
    refine st_op E (op_move (E.get rfl)) (by decide) rfl (fun a E => ?_)
    refine st_op E (op_index 1 (E.get rfl) (by omega)) (by decide) rfl (fun a E => ?_)
    refine st_op E (op_field 2 (by omega) (E.get rfl)) (by decide) rfl (fun a E => ?_)
    refine st_op E (op_load 9 (by simp) (E.get rfl) d1_2) (by decide) rfl (fun a E => ?_)
    refine st_op E (op_move (E.get rfl)) (by decide) rfl (fun a E => ?_)
    refine st_op E (op_index 2 (E.get rfl) (by omega)) (by decide) rfl (fun a E => ?_)
    refine st_op E (op_field 1 (by omega) (E.get rfl)) (by decide) rfl (fun a E => ?_)
    refine st_op E (op_load 38 (by simp) (E.get rfl) d2_1) (by decide) rfl (fun a E => ?_)
    refine st_op E (op_ne (n := n2) (E.get rfl)) (by decide) rfl (fun a E => ?_)
    refine st_op E (op_move (E.get rfl)) (by decide) rfl (fun a E => ?_)
    refine st_op E (op_index 3 (E.get rfl) (by omega)) (by decide) rfl (fun a E => ?_)
    refine st_op E (op_field 1 (by omega) (E.get rfl)) (by decide) rfl (fun a E => ?_)
    refine st_op E (op_load 38 (by simp) (E.get rfl) d3_1) (by decide) rfl (fun a E => ?_)
    refine st_op E (op_ne (n := n3) (E.get rfl)) (by decide) rfl (fun a E => ?_)
    have e734 := E.get (i := 734) rfl
    have e738 := E.get (i := 738) rfl
    have e743 := E.get (i := 743) rfl
    have e748 := E.get (i := 748) rfl
    refine st_op E (op_build 223 #[(1, .string t0), (2, .string t1), (3, .bool ((n2 : Int) != 0)), (4, .bool ((n3 : Int) != 0))] (by simp [e734, e738, e743, e748]) (cells := (.int .u16 0 :: .string t0 :: .string t1 :: .bool ((n2 : Int) != 0) :: .bool ((n3 : Int) != 0) :: zprops).toArray) (by kernel_rfl)) (by decide) rfl (fun a E => ?_)
    refine wpStill_nil ?_
    change wpList _ _ _ _ _ _
    refine lt_op E (op_box 223 (E.get rfl) (by go_simp)) (by decide) rfl (fun a E => ?_)
    refine lt_op E (op_iface 216 (E.get rfl) (by kernel_rfl)) (by decide) rfl (fun a E => ?_)
    refine lt_op E (op_assign (E.get rfl)) (by decide) rfl (fun a E => ?_)
    refine lt_op E (op_assign rfl) (by decide) rfl (fun a E => ?_)
    exact wp_ret (hQ _ _ (ret_ok E rfl rfl ⟨wX.heap.size, rfl, hbel.size, Blk.new wX 223 _, hbel.alloc hbel.size _⟩))

set_option maxRecDepth 100000 in
/-- ZZMethod: *basicReturn -/
theorem zz_basicReturn {w : World} {r c : Nat} (n0 n1 n2 n3 : Nat) (t0 t1 t2 t3 : ByteArray) (b0 b1 b2 b3 : Nat) (h0 : n0 < 65536) (hr : r < w.heap.size)
    (hc : ∀ j u, ([Value.int .i64 1, .int .u64 n0, .string t0, .map (some b0), .int .i64 4, .int .u64 n1, .string t1, .map (some b1), .int .i64 4, .int .u64 n2, .string t2, .map (some b2), .int .i64 4, .int .u64 n3, .string t3, .map (some b3)] : List Value)[j]? = some u → w.cell? ⟨r, j, none⟩ = some u) :
    Calls Tryz.prog 18 #[.int .u16 60, .int .u16 50, .slice (some ⟨r, 0, none⟩) 4 c] w (ZzPost w 224 226 (.int .u16 n0 :: .string t1 :: .string t2 :: .string t3 :: zprops).toArray) := by
  refine zz_prefix (kinds := [1, 4, 4, 4]) (r := r) rfl (ZZKinds_45 w) (fun i hi => ⟨rfl, hr, ?_⟩) (by omega) (fun Q hQ a E => ?_)
  · have hx : i = 0 ∨ i = 1 ∨ i = 2 ∨ i = 3 := by omega
    rcases hx with rfl | rfl | rfl | rfl
    all_goals exact hc _ _ rfl
  · refine sw_to 45 (by decide) rfl (by decide +kernel) (fun a E => ?_) a E
    refine wp_seq ?_
    have d0_1 : ((w.alloc (.cells (intCells [1, 4, 4, 4]).toArray 3)).drew).cell? ⟨r, 1, none⟩ = some (.int .u64 n0) := (World.cell?_alloc_lt w _ ⟨r, 1, none⟩ hr).trans (hc 1 _ rfl)
    have d1_2 : ((w.alloc (.cells (intCells [1, 4, 4, 4]).toArray 3)).drew).cell? ⟨r, 6, none⟩ = some (.string t1) := (World.cell?_alloc_lt w _ ⟨r, 6, none⟩ hr).trans (hc 6 _ rfl)
    have d2_2 : ((w.alloc (.cells (intCells [1, 4, 4, 4]).toArray 3)).drew).cell? ⟨r, 10, none⟩ = some (.string t2) := (World.cell?_alloc_lt w _ ⟨r, 10, none⟩ hr).trans (hc 10 _ rfl)
    have d3_2 : ((w.alloc (.cells (intCells [1, 4, 4, 4]).toArray 3)).drew).cell? ⟨r, 14, none⟩ = some (.string t3) := (World.cell?_alloc_lt w _ ⟨r, 14, none⟩ hr).trans (hc 14 _ rfl)
    have hbel : Below w.heap.size w ((w.alloc (.cells (intCells [1, 4, 4, 4]).toArray 3)).drew) := ((Below.refl _ _).alloc (Nat.le_refl _) _).drew
    refine region_still_tail 18 (by kernel_rfl) (by kernel_rfl) ?_
    simp only [List.take_succ_cons, List.take_zero, List.drop_succ_cons, List.drop_zero]
    generalize (w.alloc (.cells (intCells [1, 4, 4, 4]).toArray 3)).drew = wX at d0_1 d1_2 d2_2 d3_2 hbel ⊢
    refine st_op E (op_move (E.get rfl)) (by decide) rfl (fun a E => ?_)
    refine st_op E (op_index 0 (E.get rfl) (by omega)) (by decide) rfl (fun a E => ?_)
    refine st_op E (op_field 1 (by omega) (E.get rfl)) (by decide) rfl (fun a E => ?_)
    refine st_op E (op_load 38 (by simp) (E.get rfl) d0_1) (by decide) rfl (fun a E => ?_)
    refine st_op E (op_conv 51 .u16 65536 n0 (by simp) (E.get rfl) h0) (by decide) rfl (fun a E => ?_)
    refine st_op E (op_move (E.get rfl)) (by decide) rfl (fun a E => ?_)
    refine st_op E (op_index 1 (E.get rfl) (by omega)) (by decide) rfl (fun a E => ?_)
    refine st_op E (op_field 2 (by omega) (E.get rfl)) (by decide) rfl (fun a E => ?_)
    refine st_op E (op_load 9 (by simp) (E.get rfl) d1_2) (by decide) rfl (fun a E => ?_)
    refine st_op E (op_move (E.get rfl)) (by decide) rfl (fun a E => ?_)
    refine st_op E (op_index 2 (E.get rfl) (by omega)) (by decide) rfl (fun a E => ?_)
    refine st_op E (op_field 2 (by omega) (E.get rfl)) (by decide) rfl (fun a E => ?_)
    refine st_op E (op_load 9 (by simp) (E.get rfl) d2_2) (by decide) rfl (fun a E => ?_)
    refine st_op E (op_move (E.get rfl)) (by decide) rfl (fun a E => ?_)
    refine st_op E (op_index 3 (E.get rfl) (by omega)) (by decide) rfl (fun a E => ?_)
    refine st_op E (op_field 2 (by omega) (E.get rfl)) (by decide) rfl (fun a E => ?_)
    refine st_op E (op_load 9 (by simp) (E.get rfl) d3_2) (by decide) rfl (fun a E => ?_)
    have e759 := E.get (i := 759) rfl
    have e763 := E.get (i := 763) rfl
    have e767 := E.get (i := 767) rfl
    have e771 := E.get (i := 771) rfl
    refine st_op E (op_build 226 #[(0, .int .u16 n0), (1, .string t1), (2, .string t2), (3, .string t3)] (by simp [e759, e763, e767, e771]) (cells := (.int .u16 n0 :: .string t1 :: .string t2 :: .string t3 :: zprops).toArray) (by kernel_rfl)) (by decide) rfl (fun a E => ?_)
    refine wpStill_nil ?_
    change wpList _ _ _ _ _ _
    refine lt_op E (op_box 226 (E.get rfl) (by go_simp)) (by decide) rfl (fun a E => ?_)
    refine lt_op E (op_iface 224 (E.get rfl) (by kernel_rfl)) (by decide) rfl (fun a E => ?_)
    refine lt_op E (op_assign (E.get rfl)) (by decide) rfl (fun a E => ?_)
    refine lt_op E (op_assign rfl) (by decide) rfl (fun a E => ?_)
    exact wp_ret (hQ _ _ (ret_ok E rfl rfl ⟨wX.heap.size, rfl, hbel.size, Blk.new wX 226 _, hbel.alloc hbel.size _⟩))

set_option maxRecDepth 100000 in
/-- ZZMethod: *basicDeliver -/
theorem zz_basicDeliver {w : World} {r c : Nat} (n0 n1 n2 n3 n4 : Nat) (t0 t1 t2 t3 t4 : ByteArray) (b0 b1 b2 b3 b4 : Nat) (h1 : n1 < 18446744073709551616) (hr : r < w.heap.size)
    (hc : ∀ j u, ([Value.int .i64 4, .int .u64 n0, .string t0, .map (some b0), .int .i64 3, .int .u64 n1, .string t1, .map (some b1), .int .i64 6, .int .u64 n2, .string t2, .map (some b2), .int .i64 4, .int .u64 n3, .string t3, .map (some b3), .int .i64 4, .int .u64 n4, .string t4, .map (some b4)] : List Value)[j]? = some u → w.cell? ⟨r, j, none⟩ = some u) :
    Calls Tryz.prog 18 #[.int .u16 60, .int .u16 60, .slice (some ⟨r, 0, none⟩) 5 c] w (ZzPost w 227 229 (.string t0 :: .int .u64 n1 :: .bool ((n2 : Int) != 0) :: .string t3 :: .string t4 :: zprops).toArray) := by
  refine zz_prefix (kinds := [4, 3, 6, 4, 4]) (r := r) rfl (ZZKinds_46 w) (fun i hi => ⟨rfl, hr, ?_⟩) (by omega) (fun Q hQ a E => ?_)
  · have hx : i = 0 ∨ i = 1 ∨ i = 2 ∨ i = 3 ∨ i = 4 := by omega
    rcases hx with rfl | rfl | rfl | rfl | rfl
    all_goals exact hc _ _ rfl
  · refine sw_to 46 (by decide) rfl (by decide +kernel) (fun a E => ?_) a E
    refine wp_seq ?_
    have d0_2 : ((w.alloc (.cells (intCells [4, 3, 6, 4, 4]).toArray 3)).drew).cell? ⟨r, 2, none⟩ = some (.string t0) := (World.cell?_alloc_lt w _ ⟨r, 2, none⟩ hr).trans (hc 2 _ rfl)
    have d1_1 : ((w.alloc (.cells (intCells [4, 3, 6, 4, 4]).toArray 3)).drew).cell? ⟨r, 5, none⟩ = some (.int .u64 n1) := (World.cell?_alloc_lt w _ ⟨r, 5, none⟩ hr).trans (hc 5 _ rfl)
    have d2_1 : ((w.alloc (.cells (intCells [4, 3, 6, 4, 4]).toArray 3)).drew).cell? ⟨r, 9, none⟩ = some (.int .u64 n2) := (World.cell?_alloc_lt w _ ⟨r, 9, none⟩ hr).trans (hc 9 _ rfl)
    have d3_2 : ((w.alloc (.cells (intCells [4, 3, 6, 4, 4]).toArray 3)).drew).cell? ⟨r, 14, none⟩ = some (.string t3) := (World.cell?_alloc_lt w _ ⟨r, 14, none⟩ hr).trans (hc 14 _ rfl)
    have d4_2 : ((w.alloc (.cells (intCells [4, 3, 6, 4, 4]).toArray 3)).drew).cell? ⟨r, 18, none⟩ = some (.string t4) := (World.cell?_alloc_lt w _ ⟨r, 18, none⟩ hr).trans (hc 18 _ rfl)
    have hbel : Below w.heap.size w ((w.alloc (.cells (intCells [4, 3, 6, 4, 4]).toArray 3)).drew) := ((Below.refl _ _).alloc (Nat.le_refl _) _).drew
    refine region_still_tail 22 (by kernel_rfl) (by kernel_rfl) ?_
    simp only [List.take_succ_cons, List.take_zero, List.drop_succ_cons, List.drop_zero]
    generalize (w.alloc (.cells (intCells [4, 3, 6, 4, 4]).toArray 3)).drew = wX at d0_2 d1_1 d2_1 d3_2 d4_2 hbel ⊢
    refine st_op E (op_move (E.get rfl)) (by decide) rfl (fun a E => ?_)
    refine st_op E (op_index 0 (E.get rfl) (by omega)) (by decide) rfl (fun a E => ?_)
    refine st_op E (op_field 2 (by omega) (E.get rfl)) (by decide) rfl (fun a E => ?_)
    refine st_op E (op_load 9 (by simp) (E.get rfl) d0_2) (by decide) rfl (fun a E => ?_)
    refine st_op E (op_move (E.get rfl)) (by decide) rfl (fun a E => ?_)
    refine st_op E (op_index 1 (E.get rfl) (by omega)) (by decide) rfl (fun a E => ?_)
    refine st_op E (op_field 1 (by omega) (E.get rfl)) (by decide) rfl (fun a E => ?_)
    refine st_op E (op_load 38 (by simp) (E.get rfl) d1_1) (by decide) rfl (fun a E => ?_)
    refine st_op E (op_move (E.get rfl)) (by decide) rfl (fun a E => ?_)
    refine st_op E (op_index 2 (E.get rfl) (by omega)) (by decide) rfl (fun a E => ?_)
    refine st_op E (op_field 1 (by omega) (E.get rfl)) (by decide) rfl (fun a E => ?_)
    refine st_op E (op_load 38 (by simp) (E.get rfl) d2_1) (by decide) rfl (fun a E => ?_)
    refine st_op E (op_ne (n := n2) (E.get rfl)) (by decide) rfl (fun a E => ?_)
    refine st_op E (op_move (E.get rfl)) (by decide) rfl (fun a E => ?_)
    refine st_op E (op_index 3 (E.get rfl) (by omega)) (by decide) rfl (fun a E => ?_)
    refine st_op E (op_field 2 (by omega) (E.get rfl)) (by decide) rfl (fun a E => ?_)
    refine st_op E (op_load 9 (by simp) (E.get rfl) d3_2) (by decide) rfl (fun a E => ?_)
    refine st_op E (op_move (E.get rfl)) (by decide) rfl (fun a E => ?_)
    refine st_op E (op_index 4 (E.get rfl) (by omega)) (by decide) rfl (fun a E => ?_)
    refine st_op E (op_field 2 (by omega) (E.get rfl)) (by decide) rfl (fun a E => ?_)
    refine st_op E (op_load 9 (by simp) (E.get rfl) d4_2) (by decide) rfl (fun a E => ?_)
    have e781 := E.get (i := 781) rfl
    have e785 := E.get (i := 785) rfl
    have e790 := E.get (i := 790) rfl
    have e794 := E.get (i := 794) rfl
    have e798 := E.get (i := 798) rfl
    refine st_op E (op_build 229 #[(0, .string t0), (1, .int .u64 n1), (2, .bool ((n2 : Int) != 0)), (3, .string t3), (4, .string t4)] (by simp [e781, e785, e790, e794, e798]) (cells := (.string t0 :: .int .u64 n1 :: .bool ((n2 : Int) != 0) :: .string t3 :: .string t4 :: zprops).toArray) (by kernel_rfl)) (by decide) rfl (fun a E => ?_)
    refine wpStill_nil ?_
    change wpList _ _ _ _ _ _
    refine lt_op E (op_box 229 (E.get rfl) (by go_simp)) (by decide) rfl (fun a E => ?_)
    refine lt_op E (op_iface 227 (E.get rfl) (by kernel_rfl)) (by decide) rfl (fun a E => ?_)
    refine lt_op E (op_assign (E.get rfl)) (by decide) rfl (fun a E => ?_)
    refine lt_op E (op_assign rfl) (by decide) rfl (fun a E => ?_)
    exact wp_ret (hQ _ _ (ret_ok E rfl rfl ⟨wX.heap.size, rfl, hbel.size, Blk.new wX 229 _, hbel.alloc hbel.size _⟩))

set_option maxRecDepth 100000 in
/-- ZZMethod: *basicGet -/
theorem zz_basicGet {w : World} {r c : Nat} (n0 n1 : Nat) (t0 t1 : ByteArray) (b0 b1 : Nat)  (hr : r < w.heap.size)
    (hc : ∀ j u, ([Value.int .i64 4, .int .u64 n0, .string t0, .map (some b0), .int .i64 6, .int .u64 n1, .string t1, .map (some b1)] : List Value)[j]? = some u → w.cell? ⟨r, j, none⟩ = some u) :
    Calls Tryz.prog 18 #[.int .u16 60, .int .u16 70, .slice (some ⟨r, 0, none⟩) 2 c] w (ZzPost w 230 232 (.int .u16 0 :: .string t0 :: .bool ((n1 : Int) != 0) :: []).toArray) := by
  refine zz_prefix (kinds := [4, 6]) (r := r) rfl (ZZKinds_47 w) (fun i hi => ⟨rfl, hr, ?_⟩) (by omega) (fun Q hQ a E => ?_)
  · have hx : i = 0 ∨ i = 1 := by omega
    rcases hx with rfl | rfl
    all_goals exact hc _ _ rfl
  · refine sw_to 47 (by decide) rfl (by decide +kernel) (fun a E => ?_) a E
    refine wp_seq ?_
    have d0_2 : ((w.alloc (.cells (intCells [4, 6]).toArray 3)).drew).cell? ⟨r, 2, none⟩ = some (.string t0) := (World.cell?_alloc_lt w _ ⟨r, 2, none⟩ hr).trans (hc 2 _ rfl)
    have d1_1 : ((w.alloc (.cells (intCells [4, 6]).toArray 3)).drew).cell? ⟨r, 5, none⟩ = some (.int .u64 n1) := (World.cell?_alloc_lt w _ ⟨r, 5, none⟩ hr).trans (hc 5 _ rfl)
    have hbel : Below w.heap.size w ((w.alloc (.cells (intCells [4, 6]).toArray 3)).drew) := ((Below.refl _ _).alloc (Nat.le_refl _) _).drew
    refine region_still_tail 10 (by kernel_rfl) (by kernel_rfl) ?_
    simp only [List.take_succ_cons, List.take_zero, List.drop_succ_cons, List.drop_zero]
    generalize (w.alloc (.cells (intCells [4, 6]).toArray 3)).drew = wX at d0_2 d1_1 hbel ⊢
    refine st_op E (op_move (E.get rfl)) (by decide) rfl (fun a E => ?_)
    refine st_op E (op_index 0 (E.get rfl) (by omega)) (by decide) rfl (fun a E => ?_)
    refine st_op E (op_field 2 (by omega) (E.get rfl)) (by decide) rfl (fun a E => ?_)
    refine st_op E (op_load 9 (by simp) (E.get rfl) d0_2) (by decide) rfl (fun a E => ?_)
    refine st_op E (op_move (E.get rfl)) (by decide) rfl (fun a E => ?_)
    refine st_op E (op_index 1 (E.get rfl) (by omega)) (by decide) rfl (fun a E => ?_)
    refine st_op E (op_field 1 (by omega) (E.get rfl)) (by decide) rfl (fun a E => ?_)
    refine st_op E (op_load 38 (by simp) (E.get rfl) d1_1) (by decide) rfl (fun a E => ?_)
    refine st_op E (op_ne (n := n1) (E.get rfl)) (by decide) rfl (fun a E => ?_)
    have e808 := E.get (i := 808) rfl
    have e813 := E.get (i := 813) rfl
    refine st_op E (op_build 232 #[(1, .string t0), (2, .bool ((n1 : Int) != 0))] (by simp [e808, e813]) (cells := (.int .u16 0 :: .string t0 :: .bool ((n1 : Int) != 0) :: []).toArray) (by kernel_rfl)) (by decide) rfl (fun a E => ?_)
    refine wpStill_nil ?_
    change wpList _ _ _ _ _ _
    refine lt_op E (op_box 232 (E.get rfl) (by go_simp)) (by decide) rfl (fun a E => ?_)
    refine lt_op E (op_iface 230 (E.get rfl) (by kernel_rfl)) (by decide) rfl (fun a E => ?_)
    refine lt_op E (op_assign (E.get rfl)) (by decide) rfl (fun a E => ?_)
    refine lt_op E (op_assign rfl) (by decide) rfl (fun a E => ?_)
    exact wp_ret (hQ _ _ (ret_ok E rfl rfl ⟨wX.heap.size, rfl, hbel.size, Blk.new wX 232 _, hbel.alloc hbel.size _⟩))

set_option maxRecDepth 100000 in
/-- ZZMethod: *basicGetOk -/
theorem zz_basicGetOk {w : World} {r c : Nat} (n0 n1 n2 n3 n4 : Nat) (t0 t1 t2 t3 t4 : ByteArray) (b0 b1 b2 b3 b4 : Nat) (h0 : n0 < 18446744073709551616) (h4 : n4 < 4294967296) (hr : r < w.heap.size)
    (hc : ∀ j u, ([Value.int .i64 3, .int .u64 n0, .string t0, .map (some b0), .int .i64 6, .int .u64 n1, .string t1, .map (some b1), .int .i64 4, .int .u64 n2, .string t2, .map (some b2), .int .i64 4, .int .u64 n3, .string t3, .map (some b3), .int .i64 2, .int .u64 n4, .string t4, .map (some b4)] : List Value)[j]? = some u → w.cell? ⟨r, j, none⟩ = some u) :
    Calls Tryz.prog 18 #[.int .u16 60, .int .u16 71, .slice (some ⟨r, 0, none⟩) 5 c] w (ZzPost w 233 235 (.int .u64 n0 :: .bool ((n1 : Int) != 0) :: .string t2 :: .string t3 :: .int .u32 n4 :: zprops).toArray) := by
  refine zz_prefix (kinds := [3, 6, 4, 4, 2]) (r := r) rfl (ZZKinds_48 w) (fun i hi => ⟨rfl, hr, ?_⟩) (by omega) (fun Q hQ a E => ?_)
  · have hx : i = 0 ∨ i = 1 ∨ i = 2 ∨ i = 3 ∨ i = 4 := by omega
    rcases hx with rfl | rfl | rfl | rfl | rfl
    all_goals exact hc _ _ rfl
  · refine sw_to 48 (by decide) rfl (by decide +kernel) (fun a E => ?_) a E
    refine wp_seq ?_
    have d0_1 : ((w.alloc (.cells (intCells [3, 6, 4, 4, 2]).toArray 3)).drew).cell? ⟨r, 1, none⟩ = some (.int .u64 n0) := (World.cell?_alloc_lt w _ ⟨r, 1, none⟩ hr).trans (hc 1 _ rfl)
    have d1_1 : ((w.alloc (.cells (intCells [3, 6, 4, 4, 2]).toArray 3)).drew).cell? ⟨r, 5, none⟩ = some (.int .u64 n1) := (World.cell?_alloc_lt w _ ⟨r, 5, none⟩ hr).trans (hc 5 _ rfl)
    have d2_2 : ((w.alloc (.cells (intCells [3, 6, 4, 4, 2]).toArray 3)).drew).cell? ⟨r, 10, none⟩ = some (.string t2) := (World.cell?_alloc_lt w _ ⟨r, 10, none⟩ hr).trans (hc 10 _ rfl)
    have d3_2 : ((w.alloc (.cells (intCells [3, 6, 4, 4, 2]).toArray 3)).drew).cell? ⟨r, 14, none⟩ = some (.string t3) := (World.cell?_alloc_lt w _ ⟨r, 14, none⟩ hr).trans (hc 14 _ rfl)
    have d4_1 : ((w.alloc (.cells (intCells [3, 6, 4, 4, 2]).toArray 3)).drew).cell? ⟨r, 17, none⟩ = some (.int .u64 n4) := (World.cell?_alloc_lt w _ ⟨r, 17, none⟩ hr).trans (hc 17 _ rfl)
    have hbel : Below w.heap.size w ((w.alloc (.cells (intCells [3, 6, 4, 4, 2]).toArray 3)).drew) := ((Below.refl _ _).alloc (Nat.le_refl _) _).drew
    refine region_still_tail 23 (by kernel_rfl) (by kernel_rfl) ?_
    simp only [List.take_succ_cons, List.take_zero, List.drop_succ_cons, List.drop_zero]
    generalize (w.alloc (.cells (intCells [3, 6, 4, 4, 2]).toArray 3)).drew = wX at d0_1 d1_1 d2_2 d3_2 d4_1 hbel ⊢
    refine st_op E (op_move (E.get rfl)) (by decide) rfl (fun a E => ?_)
    refine st_op E (op_index 0 (E.get rfl) (by omega)) (by decide) rfl (fun a E => ?_)
    refine st_op E (op_field 1 (by omega) (E.get rfl)) (by decide) rfl (fun a E => ?_)
    refine st_op E (op_load 38 (by simp) (E.get rfl) d0_1) (by decide) rfl (fun a E => ?_)
    refine st_op E (op_move (E.get rfl)) (by decide) rfl (fun a E => ?_)
    refine st_op E (op_index 1 (E.get rfl) (by omega)) (by decide) rfl (fun a E => ?_)
    refine st_op E (op_field 1 (by omega) (E.get rfl)) (by decide) rfl (fun a E => ?_)
    refine st_op E (op_load 38 (by simp) (E.get rfl) d1_1) (by decide) rfl (fun a E => ?_)
    refine st_op E (op_ne (n := n1) (E.get rfl)) (by decide) rfl (fun a E => ?_)
    refine st_op E (op_move (E.get rfl)) (by decide) rfl (fun a E => ?_)
    refine st_op E (op_index 2 (E.get rfl) (by omega)) (by decide) rfl (fun a E => ?_)
    refine st_op E (op_field 2 (by omega) (E.get rfl)) (by decide) rfl (fun a E => ?_)
    refine st_op E (op_load 9 (by simp) (E.get rfl) d2_2) (by decide) rfl (fun a E => ?_)
    refine st_op E (op_move (E.get rfl)) (by decide) rfl (fun a E => ?_)
    refine st_op E (op_index 3 (E.get rfl) (by omega)) (by decide) rfl (fun a E => ?_)
    refine st_op E (op_field 2 (by omega) (E.get rfl)) (by decide) rfl (fun a E => ?_)
    refine st_op E (op_load 9 (by simp) (E.get rfl) d3_2) (by decide) rfl (fun a E => ?_)
    refine st_op E (op_move (E.get rfl)) (by decide) rfl (fun a E => ?_)
    refine st_op E (op_index 4 (E.get rfl) (by omega)) (by decide) rfl (fun a E => ?_)
    refine st_op E (op_field 1 (by omega) (E.get rfl)) (by decide) rfl (fun a E => ?_)
    refine st_op E (op_load 38 (by simp) (E.get rfl) d4_1) (by decide) rfl (fun a E => ?_)
    refine st_op E (op_conv 114 .u32 4294967296 n4 (by simp) (E.get rfl) h4) (by decide) rfl (fun a E => ?_)
    have e823 := E.get (i := 823) rfl
    have e828 := E.get (i := 828) rfl
    have e832 := E.get (i := 832) rfl
    have e836 := E.get (i := 836) rfl
    have e841 := E.get (i := 841) rfl
    refine st_op E (op_build 235 #[(0, .int .u64 n0), (1, .bool ((n1 : Int) != 0)), (2, .string t2), (3, .string t3), (4, .int .u32 n4)] (by simp [e823, e828, e832, e836, e841]) (cells := (.int .u64 n0 :: .bool ((n1 : Int) != 0) :: .string t2 :: .string t3 :: .int .u32 n4 :: zprops).toArray) (by kernel_rfl)) (by decide) rfl (fun a E => ?_)
    refine wpStill_nil ?_
    change wpList _ _ _ _ _ _
    refine lt_op E (op_box 235 (E.get rfl) (by go_simp)) (by decide) rfl (fun a E => ?_)
    refine lt_op E (op_iface 233 (E.get rfl) (by kernel_rfl)) (by decide) rfl (fun a E => ?_)
    refine lt_op E (op_assign (E.get rfl)) (by decide) rfl (fun a E => ?_)
    refine lt_op E (op_assign rfl) (by decide) rfl (fun a E => ?_)
    exact wp_ret (hQ _ _ (ret_ok E rfl rfl ⟨wX.heap.size, rfl, hbel.size, Blk.new wX 235 _, hbel.alloc hbel.size _⟩))

set_option maxRecDepth 100000 in
/-- ZZMethod: *basicGetEmpty -/
theorem zz_basicGetEmpty {w : World} (A : Option Addr) (c : Nat) :
    Calls Tryz.prog 18 #[.int .u16 60, .int .u16 72, .slice A 0 c] w (ZzPost w 236 237 (.string ⟨#[]⟩ :: []).toArray) := by
  refine zz_prefix (kinds := []) (r := 0) rfl (ZZKinds_49 w) (fun i hi => absurd hi (by omega)) (by omega) (fun Q hQ a E => ?_)
  refine sw_to 49 (by decide) rfl (by decide +kernel) (fun a E => ?_) a E
  refine wp_seq ?_
  have hbel : Below w.heap.size w ((w.alloc (.cells (intCells []).toArray 3))) := ((Below.refl _ _).alloc (Nat.le_refl _) _)
  refine wp_region_list ?_
  generalize (w.alloc (.cells (intCells []).toArray 3)) = wX at hbel ⊢
  refine lt_op E (op_build 237 #[] (by simp) (cells := (.string ⟨#[]⟩ :: []).toArray) (by kernel_rfl)) (by decide) rfl (fun a E => ?_)
  refine lt_op E (op_box 237 (E.get rfl) (by go_simp)) (by decide) rfl (fun a E => ?_)
  refine lt_op E (op_iface 236 (E.get rfl) (by kernel_rfl)) (by decide) rfl (fun a E => ?_)
  refine lt_op E (op_assign (E.get rfl)) (by decide) rfl (fun a E => ?_)
  refine lt_op E (op_assign rfl) (by decide) rfl (fun a E => ?_)
  exact wp_ret (hQ _ _ (ret_ok E rfl rfl ⟨wX.heap.size, rfl, hbel.size, Blk.new wX 237 _, hbel.alloc hbel.size _⟩))

set_option maxRecDepth 100000 in
/-- ZZMethod: *basicAck -/
theorem zz_basicAck {w : World} {r c : Nat} (n0 n1 : Nat) (t0 t1 : ByteArray) (b0 b1 : Nat) (h0 : n0 < 18446744073709551616) (hr : r < w.heap.size)
    (hc : ∀ j u, ([Value.int .i64 3, .int .u64 n0, .string t0, .map (some b0), .int .i64 6, .int .u64 n1, .string t1, .map (some b1)] : List Value)[j]? = some u → w.cell? ⟨r, j, none⟩ = some u) :
    Calls Tryz.prog 18 #[.int .u16 60, .int .u16 80, .slice (some ⟨r, 0, none⟩) 2 c] w (ZzPost w 238 240 (.int .u64 n0 :: .bool ((n1 : Int) != 0) :: []).toArray) := by
  refine zz_prefix (kinds := [3, 6]) (r := r) rfl (ZZKinds_50 w) (fun i hi => ⟨rfl, hr, ?_⟩) (by omega) (fun Q hQ a E => ?_)
  · have hx : i = 0 ∨ i = 1 := by omega
    rcases hx with rfl | rfl
    all_goals exact hc _ _ rfl
  · refine sw_to 50 (by decide) rfl (by decide +kernel) (fun a E => ?_) a E
    refine wp_seq ?_
    have d0_1 : ((w.alloc (.cells (intCells [3, 6]).toArray 3)).drew).cell? ⟨r, 1, none⟩ = some (.int .u64 n0) := (World.cell?_alloc_lt w _ ⟨r, 1, none⟩ hr).trans (hc 1 _ rfl)
    have d1_1 : ((w.alloc (.cells (intCells [3, 6]).toArray 3)).drew).cell? ⟨r, 5, none⟩ = some (.int .u64 n1) := (World.cell?_alloc_lt w _ ⟨r, 5, none⟩ hr).trans (hc 5 _ rfl)
    have hbel : Below w.heap.size w ((w.alloc (.cells (intCells [3, 6]).toArray 3)).drew) := ((Below.refl _ _).alloc (Nat.le_refl _) _).drew
    refine region_still_tail 10 (by kernel_rfl) (by kernel_rfl) ?_
    simp only [List.take_succ_cons, List.take_zero, List.drop_succ_cons, List.drop_zero]
    generalize (w.alloc (.cells (intCells [3, 6]).toArray 3)).drew = wX at d0_1 d1_1 hbel ⊢
    refine st_op E (op_move (E.get rfl)) (by decide) rfl (fun a E => ?_)
    refine st_op E (op_index 0 (E.get rfl) (by omega)) (by decide) rfl (fun a E => ?_)
    refine st_op E (op_field 1 (by omega) (E.get rfl)) (by decide) rfl (fun a E => ?_)
    refine st_op E (op_load 38 (by simp) (E.get rfl) d0_1) (by decide) rfl (fun a E => ?_)
    refine st_op E (op_move (E.get rfl)) (by decide) rfl (fun a E => ?_)
    refine st_op E (op_index 1 (E.get rfl) (by omega)) (by decide) rfl (fun a E => ?_)
    refine st_op E (op_field 1 (by omega) (E.get rfl)) (by decide) rfl (fun a E => ?_)
    refine st_op E (op_load 38 (by simp) (E.get rfl) d1_1) (by decide) rfl (fun a E => ?_)
    refine st_op E (op_ne (n := n1) (E.get rfl)) (by decide) rfl (fun a E => ?_)
    have e857 := E.get (i := 857) rfl
    have e862 := E.get (i := 862) rfl
    refine st_op E (op_build 240 #[(0, .int .u64 n0), (1, .bool ((n1 : Int) != 0))] (by simp [e857, e862]) (cells := (.int .u64 n0 :: .bool ((n1 : Int) != 0) :: []).toArray) (by kernel_rfl)) (by decide) rfl (fun a E => ?_)
    refine wpStill_nil ?_
    change wpList _ _ _ _ _ _
    refine lt_op E (op_box 240 (E.get rfl) (by go_simp)) (by decide) rfl (fun a E => ?_)
    refine lt_op E (op_iface 238 (E.get rfl) (by kernel_rfl)) (by decide) rfl (fun a E => ?_)
    refine lt_op E (op_assign (E.get rfl)) (by decide) rfl (fun a E => ?_)
    refine lt_op E (op_assign rfl) (by decide) rfl (fun a E => ?_)
    exact wp_ret (hQ _ _ (ret_ok E rfl rfl ⟨wX.heap.size, rfl, hbel.size, Blk.new wX 240 _, hbel.alloc hbel.size _⟩))

set_option maxRecDepth 100000 in
/-- ZZMethod: *basicReject -/
theorem zz_basicReject {w : World} {r c : Nat} (n0 n1 : Nat) (t0 t1 : ByteArray) (b0 b1 : Nat) (h0 : n0 < 18446744073709551616) (hr : r < w.heap.size)
    (hc : ∀ j u, ([Value.int .i64 3, .int .u64 n0, .string t0, .map (some b0), .int .i64 6, .int .u64 n1, .string t1, .map (some b1)] : List Value)[j]? = some u → w.cell? ⟨r, j, none⟩ = some u) :
    Calls Tryz.prog 18 #[.int .u16 60, .int .u16 90, .slice (some ⟨r, 0, none⟩) 2 c] w (ZzPost w 241 243 (.int .u64 n0 :: .bool ((n1 : Int) != 0) :: []).toArray) := by
  refine zz_prefix (kinds := [3, 6]) (r := r) rfl (ZZKinds_51 w) (fun i hi => ⟨rfl, hr, ?_⟩) (by omega) (fun Q hQ a E => ?_)
  · have hx : i = 0 ∨ i = 1 := by omega
    rcases hx with rfl | rfl
    all_goals exact hc _ _ rfl
  · refine sw_to 51 (by decide) rfl (by decide +kernel) (fun a E => ?_) a E
    refine wp_seq ?_
    have d0_1 : ((w.alloc (.cells (intCells [3, 6]).toArray 3)).drew).cell? ⟨r, 1, none⟩ = some (.int .u64 n0) := (World.cell?_alloc_lt w _ ⟨r, 1, none⟩ hr).trans (hc 1 _ rfl)
    have d1_1 : ((w.alloc (.cells (intCells [3, 6]).toArray 3)).drew).cell? ⟨r, 5, none⟩ = some (.int .u64 n1) := (World.cell?_alloc_lt w _ ⟨r, 5, none⟩ hr).trans (hc 5 _ rfl)
    have hbel : Below w.heap.size w ((w.alloc (.cells (intCells [3, 6]).toArray 3)).drew) := ((Below.refl _ _).alloc (Nat.le_refl _) _).drew
    refine region_still_tail 10 (by kernel_rfl) (by kernel_rfl) ?_
    simp only [List.take_succ_cons, List.take_zero, List.drop_succ_cons, List.drop_zero]
    generalize (w.alloc (.cells (intCells [3, 6]).toArray 3)).drew = wX at d0_1 d1_1 hbel ⊢
    refine st_op E (op_move (E.get rfl)) (by decide) rfl (fun a E => ?_)
    refine st_op E (op_index 0 (E.get rfl) (by omega)) (by decide) rfl (fun a E => ?_)
    refine st_op E (op_field 1 (by omega) (E.get rfl)) (by decide) rfl (fun a E => ?_)
    refine st_op E (op_load 38 (by simp) (E.get rfl) d0_1) (by decide) rfl (fun a E => ?_)
    refine st_op E (op_move (E.get rfl)) (by decide) rfl (fun a E => ?_)
    refine st_op E (op_index 1 (E.get rfl) (by omega)) (by decide) rfl (fun a E => ?_)
    refine st_op E (op_field 1 (by omega) (E.get rfl)) (by decide) rfl (fun a E => ?_)
    refine st_op E (op_load 38 (by simp) (E.get rfl) d1_1) (by decide) rfl (fun a E => ?_)
    refine st_op E (op_ne (n := n1) (E.get rfl)) (by decide) rfl (fun a E => ?_)
    have e872 := E.get (i := 872) rfl
    have e877 := E.get (i := 877) rfl
    refine st_op E (op_build 243 #[(0, .int .u64 n0), (1, .bool ((n1 : Int) != 0))] (by simp [e872, e877]) (cells := (.int .u64 n0 :: .bool ((n1 : Int) != 0) :: []).toArray) (by kernel_rfl)) (by decide) rfl (fun a E => ?_)
    refine wpStill_nil ?_
    change wpList _ _ _ _ _ _
    refine lt_op E (op_box 243 (E.get rfl) (by go_simp)) (by decide) rfl (fun a E => ?_)
    refine lt_op E (op_iface 241 (E.get rfl) (by kernel_rfl)) (by decide) rfl (fun a E => ?_)
    refine lt_op E (op_assign (E.get rfl)) (by decide) rfl (fun a E => ?_)
    refine lt_op E (op_assign rfl) (by decide) rfl (fun a E => ?_)
    exact wp_ret (hQ _ _ (ret_ok E rfl rfl ⟨wX.heap.size, rfl, hbel.size, Blk.new wX 243 _, hbel.alloc hbel.size _⟩))

set_option maxRecDepth 100000 in
/-- ZZMethod: *basicRecoverAsync -/
theorem zz_basicRecoverAsync {w : World} {r c : Nat} (n0 : Nat) (t0 : ByteArray) (b0 : Nat)  (hr : r < w.heap.size)
    (hc : ∀ j u, ([Value.int .i64 6, .int .u64 n0, .string t0, .map (some b0)] : List Value)[j]? = some u → w.cell? ⟨r, j, none⟩ = some u) :
    Calls Tryz.prog 18 #[.int .u16 60, .int .u16 100, .slice (some ⟨r, 0, none⟩) 1 c] w (ZzPost w 244 246 (.bool ((n0 : Int) != 0) :: []).toArray) := by
  refine zz_prefix (kinds := [6]) (r := r) rfl (ZZKinds_52 w) (fun i hi => ⟨rfl, hr, ?_⟩) (by omega) (fun Q hQ a E => ?_)
  · have hx : i = 0 := by omega
    rcases hx with rfl
    all_goals exact hc _ _ rfl
  · refine sw_to 52 (by decide) rfl (by decide +kernel) (fun a E => ?_) a E
    refine wp_seq ?_
    have d0_1 : ((w.alloc (.cells (intCells [6]).toArray 3))).cell? ⟨r, 1, none⟩ = some (.int .u64 n0) := (World.cell?_alloc_lt w _ ⟨r, 1, none⟩ hr).trans (hc 1 _ rfl)
    have hbel : Below w.heap.size w ((w.alloc (.cells (intCells [6]).toArray 3))) := ((Below.refl _ _).alloc (Nat.le_refl _) _)
    refine wp_region_list ?_
    generalize (w.alloc (.cells (intCells [6]).toArray 3)) = wX at d0_1 hbel ⊢
    refine lt_op E (op_move (E.get rfl)) (by decide) rfl (fun a E => ?_)
    refine lt_op E (op_index 0 (E.get rfl) (by omega)) (by decide) rfl (fun a E => ?_)
    refine lt_op E (op_field 1 (by omega) (E.get rfl)) (by decide) rfl (fun a E => ?_)
    refine lt_op E (op_load 38 (by simp) (E.get rfl) d0_1) (by decide) rfl (fun a E => ?_)
    refine lt_op E (op_ne (n := n0) (E.get rfl)) (by decide) rfl (fun a E => ?_)
    have e888 := E.get (i := 888) rfl
    refine lt_op E (op_build 246 #[(0, .bool ((n0 : Int) != 0))] (by simp [e888]) (cells := (.bool ((n0 : Int) != 0) :: []).toArray) (by kernel_rfl)) (by decide) rfl (fun a E => ?_)
    refine lt_op E (op_box 246 (E.get rfl) (by go_simp)) (by decide) rfl (fun a E => ?_)
    refine lt_op E (op_iface 244 (E.get rfl) (by kernel_rfl)) (by decide) rfl (fun a E => ?_)
    refine lt_op E (op_assign (E.get rfl)) (by decide) rfl (fun a E => ?_)
    refine lt_op E (op_assign rfl) (by decide) rfl (fun a E => ?_)
    exact wp_ret (hQ _ _ (ret_ok E rfl rfl ⟨wX.heap.size, rfl, hbel.size, Blk.new wX 246 _, hbel.alloc hbel.size _⟩))

set_option maxRecDepth 100000 in
/-- ZZMethod: *basicRecover -/
theorem zz_basicRecover {w : World} {r c : Nat} (n0 : Nat) (t0 : ByteArray) (b0 : Nat)  (hr : r < w.heap.size)
    (hc : ∀ j u, ([Value.int .i64 6, .int .u64 n0, .string t0, .map (some b0)] : List Value)[j]? = some u → w.cell? ⟨r, j, none⟩ = some u) :
    Calls Tryz.prog 18 #[.int .u16 60, .int .u16 110, .slice (some ⟨r, 0, none⟩) 1 c] w (ZzPost w 247 248 (.bool ((n0 : Int) != 0) :: []).toArray) := by
  refine zz_prefix (kinds := [6]) (r := r) rfl (ZZKinds_53 w) (fun i hi => ⟨rfl, hr, ?_⟩) (by omega) (fun Q hQ a E => ?_)
  · have hx : i = 0 := by omega
    rcases hx with rfl
    all_goals exact hc _ _ rfl
  · refine sw_to 53 (by decide) rfl (by decide +kernel) (fun a E => ?_) a E
    refine wp_seq ?_
    have d0_1 : ((w.alloc (.cells (intCells [6]).toArray 3))).cell? ⟨r, 1, none⟩ = some (.int .u64 n0) := (World.cell?_alloc_lt w _ ⟨r, 1, none⟩ hr).trans (hc 1 _ rfl)
    have hbel : Below w.heap.size w ((w.alloc (.cells (intCells [6]).toArray 3))) := ((Below.refl _ _).alloc (Nat.le_refl _) _)
    refine wp_region_list ?_
    generalize (w.alloc (.cells (intCells [6]).toArray 3)) = wX at d0_1 hbel ⊢
    refine lt_op E (op_move (E.get rfl)) (by decide) rfl (fun a E => ?_)
    refine lt_op E (op_index 0 (E.get rfl) (by omega)) (by decide) rfl (fun a E => ?_)
    refine lt_op E (op_field 1 (by omega) (E.get rfl)) (by decide) rfl (fun a E => ?_)
    refine lt_op E (op_load 38 (by simp) (E.get rfl) d0_1) (by decide) rfl (fun a E => ?_)
    refine lt_op E (op_ne (n := n0) (E.get rfl)) (by decide) rfl (fun a E => ?_)
    have e899 := E.get (i := 899) rfl
    refine lt_op E (op_build 248 #[(0, .bool ((n0 : Int) != 0))] (by simp [e899]) (cells := (.bool ((n0 : Int) != 0) :: []).toArray) (by kernel_rfl)) (by decide) rfl (fun a E => ?_)
    refine lt_op E (op_box 248 (E.get rfl) (by go_simp)) (by decide) rfl (fun a E => ?_)
    refine lt_op E (op_iface 247 (E.get rfl) (by kernel_rfl)) (by decide) rfl (fun a E => ?_)
    refine lt_op E (op_assign (E.get rfl)) (by decide) rfl (fun a E => ?_)
    refine lt_op E (op_assign rfl) (by decide) rfl (fun a E => ?_)
    exact wp_ret (hQ _ _ (ret_ok E rfl rfl ⟨wX.heap.size, rfl, hbel.size, Blk.new wX 248 _, hbel.alloc hbel.size _⟩))

set_option maxRecDepth 100000 in
/-- ZZMethod: *basicRecoverOk -/
theorem zz_basicRecoverOk {w : World} (A : Option Addr) (c : Nat) :
    Calls Tryz.prog 18 #[.int .u16 60, .int .u16 111, .slice A 0 c] w (ZzPost w 249 250 ([]).toArray) := by
  refine zz_prefix (kinds := []) (r := 0) rfl (ZZKinds_54 w) (fun i hi => absurd hi (by omega)) (by omega) (fun Q hQ a E => ?_)
  refine sw_to 54 (by decide) rfl (by decide +kernel) (fun a E => ?_) a E
  refine wp_seq ?_
  have hbel : Below w.heap.size w ((w.alloc (.cells (intCells []).toArray 3))) := ((Below.refl _ _).alloc (Nat.le_refl _) _)
  refine wp_region_list ?_
  generalize (w.alloc (.cells (intCells []).toArray 3)) = wX at hbel ⊢
  refine lt_op E (op_build 250 #[] (by simp) (cells := ([]).toArray) (by kernel_rfl)) (by decide) rfl (fun a E => ?_)
  refine lt_op E (op_box 250 (E.get rfl) (by go_simp)) (by decide) rfl (fun a E => ?_)
  refine lt_op E (op_iface 249 (E.get rfl) (by kernel_rfl)) (by decide) rfl (fun a E => ?_)
  refine lt_op E (op_assign (E.get rfl)) (by decide) rfl (fun a E => ?_)
  refine lt_op E (op_assign rfl) (by decide) rfl (fun a E => ?_)
  exact wp_ret (hQ _ _ (ret_ok E rfl rfl ⟨wX.heap.size, rfl, hbel.size, Blk.new wX 250 _, hbel.alloc hbel.size _⟩))

set_option maxRecDepth 100000 in
/-- ZZMethod: *basicNack -/
theorem zz_basicNack {w : World} {r c : Nat} (n0 n1 n2 : Nat) (t0 t1 t2 : ByteArray) (b0 b1 b2 : Nat) (h0 : n0 < 18446744073709551616) (hr : r < w.heap.size)
    (hc : ∀ j u, ([Value.int .i64 3, .int .u64 n0, .string t0, .map (some b0), .int .i64 6, .int .u64 n1, .string t1, .map (some b1), .int .i64 6, .int .u64 n2, .string t2, .map (some b2)] : List Value)[j]? = some u → w.cell? ⟨r, j, none⟩ = some u) :
    Calls Tryz.prog 18 #[.int .u16 60, .int .u16 120, .slice (some ⟨r, 0, none⟩) 3 c] w (ZzPost w 251 253 (.int .u64 n0 :: .bool ((n1 : Int) != 0) :: .bool ((n2 : Int) != 0) :: []).toArray) := by
  refine zz_prefix (kinds := [3, 6, 6]) (r := r) rfl (ZZKinds_55 w) (fun i hi => ⟨rfl, hr, ?_⟩) (by omega) (fun Q hQ a E => ?_)
  · have hx : i = 0 ∨ i = 1 ∨ i = 2 := by omega
    rcases hx with rfl | rfl | rfl
    all_goals exact hc _ _ rfl
  · refine sw_to 55 (by decide) rfl (by decide +kernel) (fun a E => ?_) a E
    refine wp_seq ?_
    have d0_1 : ((w.alloc (.cells (intCells [3, 6, 6]).toArray 3)).drew).cell? ⟨r, 1, none⟩ = some (.int .u64 n0) := (World.cell?_alloc_lt w _ ⟨r, 1, none⟩ hr).trans (hc 1 _ rfl)
    have d1_1 : ((w.alloc (.cells (intCells [3, 6, 6]).toArray 3)).drew).cell? ⟨r, 5, none⟩ = some (.int .u64 n1) := (World.cell?_alloc_lt w _ ⟨r, 5, none⟩ hr).trans (hc 5 _ rfl)
    have d2_1 : ((w.alloc (.cells (intCells [3, 6, 6]).toArray 3)).drew).cell? ⟨r, 9, none⟩ = some (.int .u64 n2) := (World.cell?_alloc_lt w _ ⟨r, 9, none⟩ hr).trans (hc 9 _ rfl)
    have hbel : Below w.heap.size w ((w.alloc (.cells (intCells [3, 6, 6]).toArray 3)).drew) := ((Below.refl _ _).alloc (Nat.le_refl _) _).drew
    refine region_still_tail 15 (by kernel_rfl) (by kernel_rfl) ?_
    simp only [List.take_succ_cons, List.take_zero, List.drop_succ_cons, List.drop_zero]
    generalize (w.alloc (.cells (intCells [3, 6, 6]).toArray 3)).drew = wX at d0_1 d1_1 d2_1 hbel ⊢
    refine st_op E (op_move (E.get rfl)) (by decide) rfl (fun a E => ?_)
    refine st_op E (op_index 0 (E.get rfl) (by omega)) (by decide) rfl (fun a E => ?_)
    refine st_op E (op_field 1 (by omega) (E.get rfl)) (by decide) rfl (fun a E => ?_)
    refine st_op E (op_load 38 (by simp) (E.get rfl) d0_1) (by decide) rfl (fun a E => ?_)
    refine st_op E (op_move (E.get rfl)) (by decide) rfl (fun a E => ?_)
    refine st_op E (op_index 1 (E.get rfl) (by omega)) (by decide) rfl (fun a E => ?_)
    refine st_op E (op_field 1 (by omega) (E.get rfl)) (by decide) rfl (fun a E => ?_)
    refine st_op E (op_load 38 (by simp) (E.get rfl) d1_1) (by decide) rfl (fun a E => ?_)
    refine st_op E (op_ne (n := n1) (E.get rfl)) (by decide) rfl (fun a E => ?_)
    refine st_op E (op_move (E.get rfl)) (by decide) rfl (fun a E => ?_)
    refine st_op E (op_index 2 (E.get rfl) (by omega)) (by decide) rfl (fun a E => ?_)
    refine st_op E (op_field 1 (by omega) (E.get rfl)) (by decide) rfl (fun a E => ?_)
    refine st_op E (op_load 38 (by simp) (E.get rfl) d2_1) (by decide) rfl (fun a E => ?_)
    refine st_op E (op_ne (n := n2) (E.get rfl)) (by decide) rfl (fun a E => ?_)
    have e915 := E.get (i := 915) rfl
    have e920 := E.get (i := 920) rfl
    have e925 := E.get (i := 925) rfl
    refine st_op E (op_build 253 #[(0, .int .u64 n0), (1, .bool ((n1 : Int) != 0)), (2, .bool ((n2 : Int) != 0))] (by simp [e915, e920, e925]) (cells := (.int .u64 n0 :: .bool ((n1 : Int) != 0) :: .bool ((n2 : Int) != 0) :: []).toArray) (by kernel_rfl)) (by decide) rfl (fun a E => ?_)
    refine wpStill_nil ?_
    change wpList _ _ _ _ _ _
    refine lt_op E (op_box 253 (E.get rfl) (by go_simp)) (by decide) rfl (fun a E => ?_)
    refine lt_op E (op_iface 251 (E.get rfl) (by kernel_rfl)) (by decide) rfl (fun a E => ?_)
    refine lt_op E (op_assign (E.get rfl)) (by decide) rfl (fun a E => ?_)
    refine lt_op E (op_assign rfl) (by decide) rfl (fun a E => ?_)
    exact wp_ret (hQ _ _ (ret_ok E rfl rfl ⟨wX.heap.size, rfl, hbel.size, Blk.new wX 253 _, hbel.alloc hbel.size _⟩))

set_option maxRecDepth 100000 in
/-- ZZMethod: *txSelect -/
theorem zz_txSelect {w : World} (A : Option Addr) (c : Nat) :
    Calls Tryz.prog 18 #[.int .u16 90, .int .u16 10, .slice A 0 c] w (ZzPost w 254 255 ([]).toArray) := by
  refine zz_prefix (kinds := []) (r := 0) rfl (ZZKinds_56 w) (fun i hi => absurd hi (by omega)) (by omega) (fun Q hQ a E => ?_)
  refine sw_to 56 (by decide) rfl (by decide +kernel) (fun a E => ?_) a E
  refine wp_seq ?_
  have hbel : Below w.heap.size w ((w.alloc (.cells (intCells []).toArray 3))) := ((Below.refl _ _).alloc (Nat.le_refl _) _)
  refine wp_region_list ?_
  generalize (w.alloc (.cells (intCells []).toArray 3)) = wX at hbel ⊢
  refine lt_op E (op_build 255 #[] (by simp) (cells := ([]).toArray) (by kernel_rfl)) (by decide) rfl (fun a E => ?_)
  refine lt_op E (op_box 255 (E.get rfl) (by go_simp)) (by decide) rfl (fun a E => ?_)
  refine lt_op E (op_iface 254 (E.get rfl) (by kernel_rfl)) (by decide) rfl (fun a E => ?_)
  refine lt_op E (op_assign (E.get rfl)) (by decide) rfl (fun a E => ?_)
  refine lt_op E (op_assign rfl) (by decide) rfl (fun a E => ?_)
  exact wp_ret (hQ _ _ (ret_ok E rfl rfl ⟨wX.heap.size, rfl, hbel.size, Blk.new wX 255 _, hbel.alloc hbel.size _⟩))

set_option maxRecDepth 100000 in
/-- ZZMethod: *txSelectOk -/
theorem zz_txSelectOk {w : World} (A : Option Addr) (c : Nat) :
    Calls Tryz.prog 18 #[.int .u16 90, .int .u16 11, .slice A 0 c] w (ZzPost w 256 257 ([]).toArray) := by
  refine zz_prefix (kinds := []) (r := 0) rfl (ZZKinds_57 w) (fun i hi => absurd hi (by omega)) (by omega) (fun Q hQ a E => ?_)
  refine sw_to 57 (by decide) rfl (by decide +kernel) (fun a E => ?_) a E
  refine wp_seq ?_
  have hbel : Below w.heap.size w ((w.alloc (.cells (intCells []).toArray 3))) := ((Below.refl _ _).alloc (Nat.le_refl _) _)
  refine wp_region_list ?_
  generalize (w.alloc (.cells (intCells []).toArray 3)) = wX at hbel ⊢
  refine lt_op E (op_build 257 #[] (by simp) (cells := ([]).toArray) (by kernel_rfl)) (by decide) rfl (fun a E => ?_)
  refine lt_op E (op_box 257 (E.get rfl) (by go_simp)) (by decide) rfl (fun a E => ?_)
  refine lt_op E (op_iface 256 (E.get rfl) (by kernel_rfl)) (by decide) rfl (fun a E => ?_)
  refine lt_op E (op_assign (E.get rfl)) (by decide) rfl (fun a E => ?_)
  refine lt_op E (op_assign rfl) (by decide) rfl (fun a E => ?_)
  exact wp_ret (hQ _ _ (ret_ok E rfl rfl ⟨wX.heap.size, rfl, hbel.size, Blk.new wX 257 _, hbel.alloc hbel.size _⟩))

set_option maxRecDepth 100000 in
/-- ZZMethod: *txCommit -/
theorem zz_txCommit {w : World} (A : Option Addr) (c : Nat) :
    Calls Tryz.prog 18 #[.int .u16 90, .int .u16 20, .slice A 0 c] w (ZzPost w 258 259 ([]).toArray) := by
  refine zz_prefix (kinds := []) (r := 0) rfl (ZZKinds_58 w) (fun i hi => absurd hi (by omega)) (by omega) (fun Q hQ a E => ?_)
  refine sw_to 58 (by decide) rfl (by decide +kernel) (fun a E => ?_) a E
  refine wp_seq ?_
  have hbel : Below w.heap.size w ((w.alloc (.cells (intCells []).toArray 3))) := ((Below.refl _ _).alloc (Nat.le_refl _) _)
  refine wp_region_list ?_
  generalize (w.alloc (.cells (intCells []).toArray 3)) = wX at hbel ⊢
  refine lt_op E (op_build 259 #[] (by simp) (cells := ([]).toArray) (by kernel_rfl)) (by decide) rfl (fun a E => ?_)
  refine lt_op E (op_box 259 (E.get rfl) (by go_simp)) (by decide) rfl (fun a E => ?_)
  refine lt_op E (op_iface 258 (E.get rfl) (by kernel_rfl)) (by decide) rfl (fun a E => ?_)
  refine lt_op E (op_assign (E.get rfl)) (by decide) rfl (fun a E => ?_)
  refine lt_op E (op_assign rfl) (by decide) rfl (fun a E => ?_)
  exact wp_ret (hQ _ _ (ret_ok E rfl rfl ⟨wX.heap.size, rfl, hbel.size, Blk.new wX 259 _, hbel.alloc hbel.size _⟩))

set_option maxRecDepth 100000 in
/-- ZZMethod: *txCommitOk -/
theorem zz_txCommitOk {w : World} (A : Option Addr) (c : Nat) :
    Calls Tryz.prog 18 #[.int .u16 90, .int .u16 21, .slice A 0 c] w (ZzPost w 260 261 ([]).toArray) := by
  refine zz_prefix (kinds := []) (r := 0) rfl (ZZKinds_59 w) (fun i hi => absurd hi (by omega)) (by omega) (fun Q hQ a E => ?_)
  refine sw_to 59 (by decide) rfl (by decide +kernel) (fun a E => ?_) a E
  refine wp_seq ?_
  have hbel : Below w.heap.size w ((w.alloc (.cells (intCells []).toArray 3))) := ((Below.refl _ _).alloc (Nat.le_refl _) _)
  refine wp_region_list ?_
  generalize (w.alloc (.cells (intCells []).toArray 3)) = wX at hbel ⊢
  refine lt_op E (op_build 261 #[] (by simp) (cells := ([]).toArray) (by kernel_rfl)) (by decide) rfl (fun a E => ?_)
  refine lt_op E (op_box 261 (E.get rfl) (by go_simp)) (by decide) rfl (fun a E => ?_)
  refine lt_op E (op_iface 260 (E.get rfl) (by kernel_rfl)) (by decide) rfl (fun a E => ?_)
  refine lt_op E (op_assign (E.get rfl)) (by decide) rfl (fun a E => ?_)
  refine lt_op E (op_assign rfl) (by decide) rfl (fun a E => ?_)
  exact wp_ret (hQ _ _ (ret_ok E rfl rfl ⟨wX.heap.size, rfl, hbel.size, Blk.new wX 261 _, hbel.alloc hbel.size _⟩))

set_option maxRecDepth 100000 in
/-- ZZMethod: *txRollback -/
theorem zz_txRollback {w : World} (A : Option Addr) (c : Nat) :
    Calls Tryz.prog 18 #[.int .u16 90, .int .u16 30, .slice A 0 c] w (ZzPost w 262 263 ([]).toArray) := by
  refine zz_prefix (kinds := []) (r := 0) rfl (ZZKinds_60 w) (fun i hi => absurd hi (by omega)) (by omega) (fun Q hQ a E => ?_)
  refine sw_to 60 (by decide) rfl (by decide +kernel) (fun a E => ?_) a E
  refine wp_seq ?_
  have hbel : Below w.heap.size w ((w.alloc (.cells (intCells []).toArray 3))) := ((Below.refl _ _).alloc (Nat.le_refl _) _)
  refine wp_region_list ?_
  generalize (w.alloc (.cells (intCells []).toArray 3)) = wX at hbel ⊢
  refine lt_op E (op_build 263 #[] (by simp) (cells := ([]).toArray) (by kernel_rfl)) (by decide) rfl (fun a E => ?_)
  refine lt_op E (op_box 263 (E.get rfl) (by go_simp)) (by decide) rfl (fun a E => ?_)
  refine lt_op E (op_iface 262 (E.get rfl) (by kernel_rfl)) (by decide) rfl (fun a E => ?_)
  refine lt_op E (op_assign (E.get rfl)) (by decide) rfl (fun a E => ?_)
  refine lt_op E (op_assign rfl) (by decide) rfl (fun a E => ?_)
  exact wp_ret (hQ _ _ (ret_ok E rfl rfl ⟨wX.heap.size, rfl, hbel.size, Blk.new wX 263 _, hbel.alloc hbel.size _⟩))

set_option maxRecDepth 100000 in
/-- ZZMethod: *txRollbackOk -/
theorem zz_txRollbackOk {w : World} (A : Option Addr) (c : Nat) :
    Calls Tryz.prog 18 #[.int .u16 90, .int .u16 31, .slice A 0 c] w (ZzPost w 264 265 ([]).toArray) := by
  refine zz_prefix (kinds := []) (r := 0) rfl (ZZKinds_61 w) (fun i hi => absurd hi (by omega)) (by omega) (fun Q hQ a E => ?_)
  refine sw_to 61 (by decide) rfl (by decide +kernel) (fun a E => ?_) a E
  refine wp_seq ?_
  have hbel : Below w.heap.size w ((w.alloc (.cells (intCells []).toArray 3))) := ((Below.refl _ _).alloc (Nat.le_refl _) _)
  refine wp_region_list ?_
  generalize (w.alloc (.cells (intCells []).toArray 3)) = wX at hbel ⊢
  refine lt_op E (op_build 265 #[] (by simp) (cells := ([]).toArray) (by kernel_rfl)) (by decide) rfl (fun a E => ?_)
  refine lt_op E (op_box 265 (E.get rfl) (by go_simp)) (by decide) rfl (fun a E => ?_)
  refine lt_op E (op_iface 264 (E.get rfl) (by kernel_rfl)) (by decide) rfl (fun a E => ?_)
  refine lt_op E (op_assign (E.get rfl)) (by decide) rfl (fun a E => ?_)
  refine lt_op E (op_assign rfl) (by decide) rfl (fun a E => ?_)
  exact wp_ret (hQ _ _ (ret_ok E rfl rfl ⟨wX.heap.size, rfl, hbel.size, Blk.new wX 265 _, hbel.alloc hbel.size _⟩))

set_option maxRecDepth 100000 in
/-- ZZMethod: *confirmSelect -/
theorem zz_confirmSelect {w : World} {r c : Nat} (n0 : Nat) (t0 : ByteArray) (b0 : Nat)  (hr : r < w.heap.size)
    (hc : ∀ j u, ([Value.int .i64 6, .int .u64 n0, .string t0, .map (some b0)] : List Value)[j]? = some u → w.cell? ⟨r, j, none⟩ = some u) :
    Calls Tryz.prog 18 #[.int .u16 85, .int .u16 10, .slice (some ⟨r, 0, none⟩) 1 c] w (ZzPost w 266 268 (.bool ((n0 : Int) != 0) :: []).toArray) := by
  refine zz_prefix (kinds := [6]) (r := r) rfl (ZZKinds_62 w) (fun i hi => ⟨rfl, hr, ?_⟩) (by omega) (fun Q hQ a E => ?_)
  · have hx : i = 0 := by omega
    rcases hx with rfl
    all_goals exact hc _ _ rfl
  · refine sw_to 62 (by decide) rfl (by decide +kernel) (fun a E => ?_) a E
    refine wp_seq ?_
    have d0_1 : ((w.alloc (.cells (intCells [6]).toArray 3))).cell? ⟨r, 1, none⟩ = some (.int .u64 n0) := (World.cell?_alloc_lt w _ ⟨r, 1, none⟩ hr).trans (hc 1 _ rfl)
    have hbel : Below w.heap.size w ((w.alloc (.cells (intCells [6]).toArray 3))) := ((Below.refl _ _).alloc (Nat.le_refl _) _)
    refine wp_region_list ?_
    generalize (w.alloc (.cells (intCells [6]).toArray 3)) = wX at d0_1 hbel ⊢
    refine lt_op E (op_move (E.get rfl)) (by decide) rfl (fun a E => ?_)
    refine lt_op E (op_index 0 (E.get rfl) (by omega)) (by decide) rfl (fun a E => ?_)
    refine lt_op E (op_field 1 (by omega) (E.get rfl)) (by decide) rfl (fun a E => ?_)
    refine lt_op E (op_load 38 (by simp) (E.get rfl) d0_1) (by decide) rfl (fun a E => ?_)
    refine lt_op E (op_ne (n := n0) (E.get rfl)) (by decide) rfl (fun a E => ?_)
    have e972 := E.get (i := 972) rfl
    refine lt_op E (op_build 268 #[(0, .bool ((n0 : Int) != 0))] (by simp [e972]) (cells := (.bool ((n0 : Int) != 0) :: []).toArray) (by kernel_rfl)) (by decide) rfl (fun a E => ?_)
    refine lt_op E (op_box 268 (E.get rfl) (by go_simp)) (by decide) rfl (fun a E => ?_)
    refine lt_op E (op_iface 266 (E.get rfl) (by kernel_rfl)) (by decide) rfl (fun a E => ?_)
    refine lt_op E (op_assign (E.get rfl)) (by decide) rfl (fun a E => ?_)
    refine lt_op E (op_assign rfl) (by decide) rfl (fun a E => ?_)
    exact wp_ret (hQ _ _ (ret_ok E rfl rfl ⟨wX.heap.size, rfl, hbel.size, Blk.new wX 268 _, hbel.alloc hbel.size _⟩))

set_option maxRecDepth 100000 in
/-- ZZMethod: *confirmSelectOk -/
theorem zz_confirmSelectOk {w : World} (A : Option Addr) (c : Nat) :
    Calls Tryz.prog 18 #[.int .u16 85, .int .u16 11, .slice A 0 c] w (ZzPost w 269 270 ([]).toArray) := by
  refine zz_prefix (kinds := []) (r := 0) rfl (ZZKinds_63 w) (fun i hi => absurd hi (by omega)) (by omega) (fun Q hQ a E => ?_)
  refine sw_to 63 (by decide) rfl (by decide +kernel) (fun a E => ?_) a E
  refine wp_seq ?_
  have hbel : Below w.heap.size w ((w.alloc (.cells (intCells []).toArray 3))) := ((Below.refl _ _).alloc (Nat.le_refl _) _)
  refine wp_region_list ?_
  generalize (w.alloc (.cells (intCells []).toArray 3)) = wX at hbel ⊢
  refine lt_op E (op_build 270 #[] (by simp) (cells := ([]).toArray) (by kernel_rfl)) (by decide) rfl (fun a E => ?_)
  refine lt_op E (op_box 270 (E.get rfl) (by go_simp)) (by decide) rfl (fun a E => ?_)
  refine lt_op E (op_iface 269 (E.get rfl) (by kernel_rfl)) (by decide) rfl (fun a E => ?_)
  refine lt_op E (op_assign (E.get rfl)) (by decide) rfl (fun a E => ?_)
  refine lt_op E (op_assign rfl) (by decide) rfl (fun a E => ?_)
  exact wp_ret (hQ _ _ (ret_ok E rfl rfl ⟨wX.heap.size, rfl, hbel.size, Blk.new wX 270 _, hbel.alloc hbel.size _⟩))

end Go.Proofs.YtabeppaehenefaaGreat
