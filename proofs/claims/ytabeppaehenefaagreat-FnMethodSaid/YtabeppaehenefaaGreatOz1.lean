/-
  FnMethod: ZZMethod method by method, part 1 (printed by a program).
-/
import Derived.Test.YtabeppaehenefaaGreatOd
namespace Go.Proofs.YtabeppaehenefaaGreat
open Go.RowKit
set_option linter.unusedVariables false

set_option maxRecDepth 100000 in
/-- ZZMethod: *connectionStart -/
theorem zz_connectionStart {w : World} {r c : Nat} (n0 n1 n2 n3 n4 : Nat) (t0 t1 t2 t3 t4 : ByteArray) (b0 b1 b2 b3 b4 : Nat) (h0 : n0 < 256) (h1 : n1 < 256) (hr : r < w.heap.size)
    (hc : ∀ j u, ([Value.int .i64 0, .int .u64 n0, .string t0, .map (some b0), .int .i64 0, .int .u64 n1, .string t1, .map (some b1), .int .i64 7, .int .u64 n2, .string t2, .map (some b2), .int .i64 5, .int .u64 n3, .string t3, .map (some b3), .int .i64 5, .int .u64 n4, .string t4, .map (some b4)] : List Value)[j]? = some u → w.cell? ⟨r, j, none⟩ = some u) :
    Calls Tryz.prog 18 #[.int .u16 10, .int .u16 10, .slice (some ⟨r, 0, none⟩) 5 c] w (ZzPost w 101 103 (.int .u8 n0 :: .int .u8 n1 :: .map (some b2) :: .string t3 :: .string t4 :: []).toArray) := by
  refine zz_prefix (kinds := [0, 0, 7, 5, 5]) (r := r) rfl (ZZKinds_0 w) (fun i hi => ⟨rfl, hr, ?_⟩) (by omega) (fun Q hQ a E => ?_)
  · have hx : i = 0 ∨ i = 1 ∨ i = 2 ∨ i = 3 ∨ i = 4 := by omega
    rcases hx with rfl | rfl | rfl | rfl | rfl
    all_goals exact hc _ _ rfl
  · refine sw_to 0 (by decide) rfl (by decide +kernel) (fun a E => ?_) a E
    refine wp_seq ?_
    have d0_1 : ((w.alloc (.cells (intCells [0, 0, 7, 5, 5]).toArray 3)).drew).cell? ⟨r, 1, none⟩ = some (.int .u64 n0) := (World.cell?_alloc_lt w _ ⟨r, 1, none⟩ hr).trans (hc 1 _ rfl)
    have d1_1 : ((w.alloc (.cells (intCells [0, 0, 7, 5, 5]).toArray 3)).drew).cell? ⟨r, 5, none⟩ = some (.int .u64 n1) := (World.cell?_alloc_lt w _ ⟨r, 5, none⟩ hr).trans (hc 5 _ rfl)
    have d2_3 : ((w.alloc (.cells (intCells [0, 0, 7, 5, 5]).toArray 3)).drew).cell? ⟨r, 11, none⟩ = some (.map (some b2)) := (World.cell?_alloc_lt w _ ⟨r, 11, none⟩ hr).trans (hc 11 _ rfl)
    have d3_2 : ((w.alloc (.cells (intCells [0, 0, 7, 5, 5]).toArray 3)).drew).cell? ⟨r, 14, none⟩ = some (.string t3) := (World.cell?_alloc_lt w _ ⟨r, 14, none⟩ hr).trans (hc 14 _ rfl)
    have d4_2 : ((w.alloc (.cells (intCells [0, 0, 7, 5, 5]).toArray 3)).drew).cell? ⟨r, 18, none⟩ = some (.string t4) := (World.cell?_alloc_lt w _ ⟨r, 18, none⟩ hr).trans (hc 18 _ rfl)
    have hbel : Below w.heap.size w ((w.alloc (.cells (intCells [0, 0, 7, 5, 5]).toArray 3)).drew) := ((Below.refl _ _).alloc (Nat.le_refl _) _).drew
    refine region_still_tail 23 (by kernel_rfl) (by kernel_rfl) ?_
    simp only [List.take_succ_cons, List.take_zero, List.drop_succ_cons, List.drop_zero]
    generalize (w.alloc (.cells (intCells [0, 0, 7, 5, 5]).toArray 3)).drew = wX at d0_1 d1_1 d2_3 d3_2 d4_2 hbel ⊢
    refine st_op E (op_move (E.get rfl)) (by decide) rfl (fun a E => ?_)
    refine st_op E (op_index 0 (E.get rfl) (by omega)) (by decide) rfl (fun a E => ?_)
    refine st_op E (op_field 1 (by omega) (E.get rfl)) (by decide) rfl (fun a E => ?_)
    refine st_op E (op_load 38 (by simp) (E.get rfl) d0_1) (by decide) rfl (fun a E => ?_)
    refine st_op E (op_conv 5 .u8 256 n0 (by simp) (E.get rfl) h0) (by decide) rfl (fun a E => ?_)
    refine st_op E (op_move (E.get rfl)) (by decide) rfl (fun a E => ?_)
    refine st_op E (op_index 1 (E.get rfl) (by omega)) (by decide) rfl (fun a E => ?_)
    refine st_op E (op_field 1 (by omega) (E.get rfl)) (by decide) rfl (fun a E => ?_)
    refine st_op E (op_load 38 (by simp) (E.get rfl) d1_1) (by decide) rfl (fun a E => ?_)
    refine st_op E (op_conv 5 .u8 256 n1 (by simp) (E.get rfl) h1) (by decide) rfl (fun a E => ?_)
    refine st_op E (op_move (E.get rfl)) (by decide) rfl (fun a E => ?_)
    refine st_op E (op_index 2 (E.get rfl) (by omega)) (by decide) rfl (fun a E => ?_)
    refine st_op E (op_field 3 (by omega) (E.get rfl)) (by decide) rfl (fun a E => ?_)
    refine st_op E (op_load 56 (by simp) (E.get rfl) d2_3) (by decide) rfl (fun a E => ?_)
    refine st_op E (op_move (E.get rfl)) (by decide) rfl (fun a E => ?_)
    refine st_op E (op_index 3 (E.get rfl) (by omega)) (by decide) rfl (fun a E => ?_)
    refine st_op E (op_field 2 (by omega) (E.get rfl)) (by decide) rfl (fun a E => ?_)
    refine st_op E (op_load 9 (by simp) (E.get rfl) d3_2) (by decide) rfl (fun a E => ?_)
    refine st_op E (op_move (E.get rfl)) (by decide) rfl (fun a E => ?_)
    refine st_op E (op_index 4 (E.get rfl) (by omega)) (by decide) rfl (fun a E => ?_)
    refine st_op E (op_field 2 (by omega) (E.get rfl)) (by decide) rfl (fun a E => ?_)
    refine st_op E (op_load 9 (by simp) (E.get rfl) d4_2) (by decide) rfl (fun a E => ?_)
    have e52 := E.get (i := 52) rfl
    have e57 := E.get (i := 57) rfl
    have e61 := E.get (i := 61) rfl
    have e65 := E.get (i := 65) rfl
    have e69 := E.get (i := 69) rfl
    refine st_op E (op_build 103 #[(0, .int .u8 n0), (1, .int .u8 n1), (2, .map (some b2)), (3, .string t3), (4, .string t4)] (by simp [e52, e57, e61, e65, e69]) (cells := (.int .u8 n0 :: .int .u8 n1 :: .map (some b2) :: .string t3 :: .string t4 :: []).toArray) (by kernel_rfl)) (by decide) rfl (fun a E => ?_)
    refine wpStill_nil ?_
    change wpList _ _ _ _ _ _
    refine lt_op E (op_box 103 (E.get rfl) (by go_simp)) (by decide) rfl (fun a E => ?_)
    refine lt_op E (op_iface 101 (E.get rfl) (by kernel_rfl)) (by decide) rfl (fun a E => ?_)
    refine lt_op E (op_assign (E.get rfl)) (by decide) rfl (fun a E => ?_)
    refine lt_op E (op_assign rfl) (by decide) rfl (fun a E => ?_)
    exact wp_ret (hQ _ _ (ret_ok E rfl rfl ⟨wX.heap.size, rfl, hbel.size, Blk.new wX 103 _, hbel.alloc hbel.size _⟩))

set_option maxRecDepth 100000 in
/-- ZZMethod: *connectionStartOk -/
theorem zz_connectionStartOk {w : World} {r c : Nat} (n0 n1 n2 n3 : Nat) (t0 t1 t2 t3 : ByteArray) (b0 b1 b2 b3 : Nat)  (hr : r < w.heap.size)
    (hc : ∀ j u, ([Value.int .i64 7, .int .u64 n0, .string t0, .map (some b0), .int .i64 4, .int .u64 n1, .string t1, .map (some b1), .int .i64 5, .int .u64 n2, .string t2, .map (some b2), .int .i64 4, .int .u64 n3, .string t3, .map (some b3)] : List Value)[j]? = some u → w.cell? ⟨r, j, none⟩ = some u) :
    Calls Tryz.prog 18 #[.int .u16 10, .int .u16 11, .slice (some ⟨r, 0, none⟩) 4 c] w (ZzPost w 104 106 (.map (some b0) :: .string t1 :: .string t2 :: .string t3 :: []).toArray) := by
  refine zz_prefix (kinds := [7, 4, 5, 4]) (r := r) rfl (ZZKinds_1 w) (fun i hi => ⟨rfl, hr, ?_⟩) (by omega) (fun Q hQ a E => ?_)
  · have hx : i = 0 ∨ i = 1 ∨ i = 2 ∨ i = 3 := by omega
    rcases hx with rfl | rfl | rfl | rfl
    all_goals exact hc _ _ rfl
  · refine sw_to 1 (by decide) rfl (by decide +kernel) (fun a E => ?_) a E
    refine wp_seq ?_
    have d0_3 : ((w.alloc (.cells (intCells [7, 4, 5, 4]).toArray 3)).drew).cell? ⟨r, 3, none⟩ = some (.map (some b0)) := (World.cell?_alloc_lt w _ ⟨r, 3, none⟩ hr).trans (hc 3 _ rfl)
    have d1_2 : ((w.alloc (.cells (intCells [7, 4, 5, 4]).toArray 3)).drew).cell? ⟨r, 6, none⟩ = some (.string t1) := (World.cell?_alloc_lt w _ ⟨r, 6, none⟩ hr).trans (hc 6 _ rfl)
    have d2_2 : ((w.alloc (.cells (intCells [7, 4, 5, 4]).toArray 3)).drew).cell? ⟨r, 10, none⟩ = some (.string t2) := (World.cell?_alloc_lt w _ ⟨r, 10, none⟩ hr).trans (hc 10 _ rfl)
    have d3_2 : ((w.alloc (.cells (intCells [7, 4, 5, 4]).toArray 3)).drew).cell? ⟨r, 14, none⟩ = some (.string t3) := (World.cell?_alloc_lt w _ ⟨r, 14, none⟩ hr).trans (hc 14 _ rfl)
    have hbel : Below w.heap.size w ((w.alloc (.cells (intCells [7, 4, 5, 4]).toArray 3)).drew) := ((Below.refl _ _).alloc (Nat.le_refl _) _).drew
    refine region_still_tail 17 (by kernel_rfl) (by kernel_rfl) ?_
    simp only [List.take_succ_cons, List.take_zero, List.drop_succ_cons, List.drop_zero]
    generalize (w.alloc (.cells (intCells [7, 4, 5, 4]).toArray 3)).drew = wX at d0_3 d1_2 d2_2 d3_2 hbel ⊢
    refine st_op E (op_move (E.get rfl)) (by decide) rfl (fun a E => ?_)
    refine st_op E (op_index 0 (E.get rfl) (by omega)) (by decide) rfl (fun a E => ?_)
    refine st_op E (op_field 3 (by omega) (E.get rfl)) (by decide) rfl (fun a E => ?_)
    refine st_op E (op_load 56 (by simp) (E.get rfl) d0_3) (by decide) rfl (fun a E => ?_)
    refine st_op E (op_move (E.get rfl)) (by decide) rfl (fun a E => ?_)
    refine st_op E (op_index 1 (E.get rfl) (by omega)) (by decide) rfl (fun a E => ?_)
    refine st_op E (op_field 2 (by omega) (E.get rfl)) (by decide) rfl (fun a E => ?_)
    refine st_op E (op_load 9 (by simp) (E.get rfl) d1_2) (by decide) rfl (fun a E => ?_)
    refine st_op E (op_move (E.get rfl)) (by decide) rfl (fun a E => ?_)
    refine st_op E (op_index 2 (E.get rfl) (by omega)) (by decide) rfl (fun a E => ?_)
    refine st_op E (op_field 2 (by omega) (E.get rfl)) (by decide) rfl (fun a E => ?_)
    refine st_op E (op_load 9 (by simp) (E.get rfl) d2_2) (by decide) rfl (fun a E => ?_)
    refine st_op E (op_move (E.get rfl)) (by decide) rfl (fun a E => ?_)
    refine st_op E (op_index 3 (E.get rfl) (by omega)) (by decide) rfl (fun a E => ?_)
    refine st_op E (op_field 2 (by omega) (E.get rfl)) (by decide) rfl (fun a E => ?_)
    refine st_op E (op_load 9 (by simp) (E.get rfl) d3_2) (by decide) rfl (fun a E => ?_)
    have e79 := E.get (i := 79) rfl
    have e83 := E.get (i := 83) rfl
    have e87 := E.get (i := 87) rfl
    have e91 := E.get (i := 91) rfl
    refine st_op E (op_build 106 #[(0, .map (some b0)), (1, .string t1), (2, .string t2), (3, .string t3)] (by simp [e79, e83, e87, e91]) (cells := (.map (some b0) :: .string t1 :: .string t2 :: .string t3 :: []).toArray) (by kernel_rfl)) (by decide) rfl (fun a E => ?_)
    refine wpStill_nil ?_
    change wpList _ _ _ _ _ _
    refine lt_op E (op_box 106 (E.get rfl) (by go_simp)) (by decide) rfl (fun a E => ?_)
    refine lt_op E (op_iface 104 (E.get rfl) (by kernel_rfl)) (by decide) rfl (fun a E => ?_)
    refine lt_op E (op_assign (E.get rfl)) (by decide) rfl (fun a E => ?_)
    refine lt_op E (op_assign rfl) (by decide) rfl (fun a E => ?_)
    exact wp_ret (hQ _ _ (ret_ok E rfl rfl ⟨wX.heap.size, rfl, hbel.size, Blk.new wX 106 _, hbel.alloc hbel.size _⟩))

set_option maxRecDepth 100000 in
/-- ZZMethod: *connectionSecure -/
theorem zz_connectionSecure {w : World} {r c : Nat} (n0 : Nat) (t0 : ByteArray) (b0 : Nat)  (hr : r < w.heap.size)
    (hc : ∀ j u, ([Value.int .i64 5, .int .u64 n0, .string t0, .map (some b0)] : List Value)[j]? = some u → w.cell? ⟨r, j, none⟩ = some u) :
    Calls Tryz.prog 18 #[.int .u16 10, .int .u16 20, .slice (some ⟨r, 0, none⟩) 1 c] w (ZzPost w 107 109 (.string t0 :: []).toArray) := by
  refine zz_prefix (kinds := [5]) (r := r) rfl (ZZKinds_2 w) (fun i hi => ⟨rfl, hr, ?_⟩) (by omega) (fun Q hQ a E => ?_)
  · have hx : i = 0 := by omega
    rcases hx with rfl
    all_goals exact hc _ _ rfl
  · refine sw_to 2 (by decide) rfl (by decide +kernel) (fun a E => ?_) a E
    refine wp_seq ?_
    have d0_2 : ((w.alloc (.cells (intCells [5]).toArray 3))).cell? ⟨r, 2, none⟩ = some (.string t0) := (World.cell?_alloc_lt w _ ⟨r, 2, none⟩ hr).trans (hc 2 _ rfl)
    have hbel : Below w.heap.size w ((w.alloc (.cells (intCells [5]).toArray 3))) := ((Below.refl _ _).alloc (Nat.le_refl _) _)
    refine wp_region_list ?_
    generalize (w.alloc (.cells (intCells [5]).toArray 3)) = wX at d0_2 hbel ⊢
    refine lt_op E (op_move (E.get rfl)) (by decide) rfl (fun a E => ?_)
    refine lt_op E (op_index 0 (E.get rfl) (by omega)) (by decide) rfl (fun a E => ?_)
    refine lt_op E (op_field 2 (by omega) (E.get rfl)) (by decide) rfl (fun a E => ?_)
    refine lt_op E (op_load 9 (by simp) (E.get rfl) d0_2) (by decide) rfl (fun a E => ?_)
    have e101 := E.get (i := 101) rfl
    refine lt_op E (op_build 109 #[(0, .string t0)] (by simp [e101]) (cells := (.string t0 :: []).toArray) (by kernel_rfl)) (by decide) rfl (fun a E => ?_)
    refine lt_op E (op_box 109 (E.get rfl) (by go_simp)) (by decide) rfl (fun a E => ?_)
    refine lt_op E (op_iface 107 (E.get rfl) (by kernel_rfl)) (by decide) rfl (fun a E => ?_)
    refine lt_op E (op_assign (E.get rfl)) (by decide) rfl (fun a E => ?_)
    refine lt_op E (op_assign rfl) (by decide) rfl (fun a E => ?_)
    exact wp_ret (hQ _ _ (ret_ok E rfl rfl ⟨wX.heap.size, rfl, hbel.size, Blk.new wX 109 _, hbel.alloc hbel.size _⟩))

set_option maxRecDepth 100000 in
/-- ZZMethod: *connectionSecureOk -/
theorem zz_connectionSecureOk {w : World} {r c : Nat} (n0 : Nat) (t0 : ByteArray) (b0 : Nat)  (hr : r < w.heap.size)
    (hc : ∀ j u, ([Value.int .i64 5, .int .u64 n0, .string t0, .map (some b0)] : List Value)[j]? = some u → w.cell? ⟨r, j, none⟩ = some u) :
    Calls Tryz.prog 18 #[.int .u16 10, .int .u16 21, .slice (some ⟨r, 0, none⟩) 1 c] w (ZzPost w 110 112 (.string t0 :: []).toArray) := by
  refine zz_prefix (kinds := [5]) (r := r) rfl (ZZKinds_3 w) (fun i hi => ⟨rfl, hr, ?_⟩) (by omega) (fun Q hQ a E => ?_)
  · have hx : i = 0 := by omega
    rcases hx with rfl
    all_goals exact hc _ _ rfl
  · refine sw_to 3 (by decide) rfl (by decide +kernel) (fun a E => ?_) a E
    refine wp_seq ?_
    have d0_2 : ((w.alloc (.cells (intCells [5]).toArray 3))).cell? ⟨r, 2, none⟩ = some (.string t0) := (World.cell?_alloc_lt w _ ⟨r, 2, none⟩ hr).trans (hc 2 _ rfl)
    have hbel : Below w.heap.size w ((w.alloc (.cells (intCells [5]).toArray 3))) := ((Below.refl _ _).alloc (Nat.le_refl _) _)
    refine wp_region_list ?_
    generalize (w.alloc (.cells (intCells [5]).toArray 3)) = wX at d0_2 hbel ⊢
    refine lt_op E (op_move (E.get rfl)) (by decide) rfl (fun a E => ?_)
    refine lt_op E (op_index 0 (E.get rfl) (by omega)) (by decide) rfl (fun a E => ?_)
    refine lt_op E (op_field 2 (by omega) (E.get rfl)) (by decide) rfl (fun a E => ?_)
    refine lt_op E (op_load 9 (by simp) (E.get rfl) d0_2) (by decide) rfl (fun a E => ?_)
    have e111 := E.get (i := 111) rfl
    refine lt_op E (op_build 112 #[(0, .string t0)] (by simp [e111]) (cells := (.string t0 :: []).toArray) (by kernel_rfl)) (by decide) rfl (fun a E => ?_)
    refine lt_op E (op_box 112 (E.get rfl) (by go_simp)) (by decide) rfl (fun a E => ?_)
    refine lt_op E (op_iface 110 (E.get rfl) (by kernel_rfl)) (by decide) rfl (fun a E => ?_)
    refine lt_op E (op_assign (E.get rfl)) (by decide) rfl (fun a E => ?_)
    refine lt_op E (op_assign rfl) (by decide) rfl (fun a E => ?_)
    exact wp_ret (hQ _ _ (ret_ok E rfl rfl ⟨wX.heap.size, rfl, hbel.size, Blk.new wX 112 _, hbel.alloc hbel.size _⟩))

set_option maxRecDepth 100000 in
/-- ZZMethod: *connectionTune -/
theorem zz_connectionTune {w : World} {r c : Nat} (n0 n1 n2 : Nat) (t0 t1 t2 : ByteArray) (b0 b1 b2 : Nat) (h0 : n0 < 65536) (h1 : n1 < 4294967296) (h2 : n2 < 65536) (hr : r < w.heap.size)
    (hc : ∀ j u, ([Value.int .i64 1, .int .u64 n0, .string t0, .map (some b0), .int .i64 2, .int .u64 n1, .string t1, .map (some b1), .int .i64 1, .int .u64 n2, .string t2, .map (some b2)] : List Value)[j]? = some u → w.cell? ⟨r, j, none⟩ = some u) :
    Calls Tryz.prog 18 #[.int .u16 10, .int .u16 30, .slice (some ⟨r, 0, none⟩) 3 c] w (ZzPost w 113 116 (.int .u16 n0 :: .int .u32 n1 :: .int .u16 n2 :: []).toArray) := by
  refine zz_prefix (kinds := [1, 2, 1]) (r := r) rfl (ZZKinds_4 w) (fun i hi => ⟨rfl, hr, ?_⟩) (by omega) (fun Q hQ a E => ?_)
  · have hx : i = 0 ∨ i = 1 ∨ i = 2 := by omega
    rcases hx with rfl | rfl | rfl
    all_goals exact hc _ _ rfl
  · refine sw_to 4 (by decide) rfl (by decide +kernel) (fun a E => ?_) a E
    refine wp_seq ?_
    have d0_1 : ((w.alloc (.cells (intCells [1, 2, 1]).toArray 3)).drew).cell? ⟨r, 1, none⟩ = some (.int .u64 n0) := (World.cell?_alloc_lt w _ ⟨r, 1, none⟩ hr).trans (hc 1 _ rfl)
    have d1_1 : ((w.alloc (.cells (intCells [1, 2, 1]).toArray 3)).drew).cell? ⟨r, 5, none⟩ = some (.int .u64 n1) := (World.cell?_alloc_lt w _ ⟨r, 5, none⟩ hr).trans (hc 5 _ rfl)
    have d2_1 : ((w.alloc (.cells (intCells [1, 2, 1]).toArray 3)).drew).cell? ⟨r, 9, none⟩ = some (.int .u64 n2) := (World.cell?_alloc_lt w _ ⟨r, 9, none⟩ hr).trans (hc 9 _ rfl)
    have hbel : Below w.heap.size w ((w.alloc (.cells (intCells [1, 2, 1]).toArray 3)).drew) := ((Below.refl _ _).alloc (Nat.le_refl _) _).drew
    refine region_still_tail 16 (by kernel_rfl) (by kernel_rfl) ?_
    simp only [List.take_succ_cons, List.take_zero, List.drop_succ_cons, List.drop_zero]
    generalize (w.alloc (.cells (intCells [1, 2, 1]).toArray 3)).drew = wX at d0_1 d1_1 d2_1 hbel ⊢
    refine st_op E (op_move (E.get rfl)) (by decide) rfl (fun a E => ?_)
    refine st_op E (op_index 0 (E.get rfl) (by omega)) (by decide) rfl (fun a E => ?_)
    refine st_op E (op_field 1 (by omega) (E.get rfl)) (by decide) rfl (fun a E => ?_)
    refine st_op E (op_load 38 (by simp) (E.get rfl) d0_1) (by decide) rfl (fun a E => ?_)
    refine st_op E (op_conv 51 .u16 65536 n0 (by simp) (E.get rfl) h0) (by decide) rfl (fun a E => ?_)
    refine st_op E (op_move (E.get rfl)) (by decide) rfl (fun a E => ?_)
    refine st_op E (op_index 1 (E.get rfl) (by omega)) (by decide) rfl (fun a E => ?_)
    refine st_op E (op_field 1 (by omega) (E.get rfl)) (by decide) rfl (fun a E => ?_)
    refine st_op E (op_load 38 (by simp) (E.get rfl) d1_1) (by decide) rfl (fun a E => ?_)
    refine st_op E (op_conv 114 .u32 4294967296 n1 (by simp) (E.get rfl) h1) (by decide) rfl (fun a E => ?_)
    refine st_op E (op_move (E.get rfl)) (by decide) rfl (fun a E => ?_)
    refine st_op E (op_index 2 (E.get rfl) (by omega)) (by decide) rfl (fun a E => ?_)
    refine st_op E (op_field 1 (by omega) (E.get rfl)) (by decide) rfl (fun a E => ?_)
    refine st_op E (op_load 38 (by simp) (E.get rfl) d2_1) (by decide) rfl (fun a E => ?_)
    refine st_op E (op_conv 51 .u16 65536 n2 (by simp) (E.get rfl) h2) (by decide) rfl (fun a E => ?_)
    have e122 := E.get (i := 122) rfl
    have e127 := E.get (i := 127) rfl
    have e132 := E.get (i := 132) rfl
    refine st_op E (op_build 116 #[(0, .int .u16 n0), (1, .int .u32 n1), (2, .int .u16 n2)] (by simp [e122, e127, e132]) (cells := (.int .u16 n0 :: .int .u32 n1 :: .int .u16 n2 :: []).toArray) (by kernel_rfl)) (by decide) rfl (fun a E => ?_)
    refine wpStill_nil ?_
    change wpList _ _ _ _ _ _
    refine lt_op E (op_box 116 (E.get rfl) (by go_simp)) (by decide) rfl (fun a E => ?_)
    refine lt_op E (op_iface 113 (E.get rfl) (by kernel_rfl)) (by decide) rfl (fun a E => ?_)
    refine lt_op E (op_assign (E.get rfl)) (by decide) rfl (fun a E => ?_)
    refine lt_op E (op_assign rfl) (by decide) rfl (fun a E => ?_)
    exact wp_ret (hQ _ _ (ret_ok E rfl rfl ⟨wX.heap.size, rfl, hbel.size, Blk.new wX 116 _, hbel.alloc hbel.size _⟩))

set_option maxRecDepth 100000 in
/-- ZZMethod: *connectionTuneOk -/
theorem zz_connectionTuneOk {w : World} {r c : Nat} (n0 n1 n2 : Nat) (t0 t1 t2 : ByteArray) (b0 b1 b2 : Nat) (h0 : n0 < 65536) (h1 : n1 < 4294967296) (h2 : n2 < 65536) (hr : r < w.heap.size)
    (hc : ∀ j u, ([Value.int .i64 1, .int .u64 n0, .string t0, .map (some b0), .int .i64 2, .int .u64 n1, .string t1, .map (some b1), .int .i64 1, .int .u64 n2, .string t2, .map (some b2)] : List Value)[j]? = some u → w.cell? ⟨r, j, none⟩ = some u) :
    Calls Tryz.prog 18 #[.int .u16 10, .int .u16 31, .slice (some ⟨r, 0, none⟩) 3 c] w (ZzPost w 117 118 (.int .u16 n0 :: .int .u32 n1 :: .int .u16 n2 :: []).toArray) := by
  refine zz_prefix (kinds := [1, 2, 1]) (r := r) rfl (ZZKinds_5 w) (fun i hi => ⟨rfl, hr, ?_⟩) (by omega) (fun Q hQ a E => ?_)
  · have hx : i = 0 ∨ i = 1 ∨ i = 2 := by omega
    rcases hx with rfl | rfl | rfl
    all_goals exact hc _ _ rfl
  · refine sw_to 5 (by decide) rfl (by decide +kernel) (fun a E => ?_) a E
    refine wp_seq ?_
    have d0_1 : ((w.alloc (.cells (intCells [1, 2, 1]).toArray 3)).drew).cell? ⟨r, 1, none⟩ = some (.int .u64 n0) := (World.cell?_alloc_lt w _ ⟨r, 1, none⟩ hr).trans (hc 1 _ rfl)
    have d1_1 : ((w.alloc (.cells (intCells [1, 2, 1]).toArray 3)).drew).cell? ⟨r, 5, none⟩ = some (.int .u64 n1) := (World.cell?_alloc_lt w _ ⟨r, 5, none⟩ hr).trans (hc 5 _ rfl)
    have d2_1 : ((w.alloc (.cells (intCells [1, 2, 1]).toArray 3)).drew).cell? ⟨r, 9, none⟩ = some (.int .u64 n2) := (World.cell?_alloc_lt w _ ⟨r, 9, none⟩ hr).trans (hc 9 _ rfl)
    have hbel : Below w.heap.size w ((w.alloc (.cells (intCells [1, 2, 1]).toArray 3)).drew) := ((Below.refl _ _).alloc (Nat.le_refl _) _).drew
    refine region_still_tail 16 (by kernel_rfl) (by kernel_rfl) ?_
    simp only [List.take_succ_cons, List.take_zero, List.drop_succ_cons, List.drop_zero]
    generalize (w.alloc (.cells (intCells [1, 2, 1]).toArray 3)).drew = wX at d0_1 d1_1 d2_1 hbel ⊢
    refine st_op E (op_move (E.get rfl)) (by decide) rfl (fun a E => ?_)
    refine st_op E (op_index 0 (E.get rfl) (by omega)) (by decide) rfl (fun a E => ?_)
    refine st_op E (op_field 1 (by omega) (E.get rfl)) (by decide) rfl (fun a E => ?_)
    refine st_op E (op_load 38 (by simp) (E.get rfl) d0_1) (by decide) rfl (fun a E => ?_)
    refine st_op E (op_conv 51 .u16 65536 n0 (by simp) (E.get rfl) h0) (by decide) rfl (fun a E => ?_)
    refine st_op E (op_move (E.get rfl)) (by decide) rfl (fun a E => ?_)
    refine st_op E (op_index 1 (E.get rfl) (by omega)) (by decide) rfl (fun a E => ?_)
    refine st_op E (op_field 1 (by omega) (E.get rfl)) (by decide) rfl (fun a E => ?_)
    refine st_op E (op_load 38 (by simp) (E.get rfl) d1_1) (by decide) rfl (fun a E => ?_)
    refine st_op E (op_conv 114 .u32 4294967296 n1 (by simp) (E.get rfl) h1) (by decide) rfl (fun a E => ?_)
    refine st_op E (op_move (E.get rfl)) (by decide) rfl (fun a E => ?_)
    refine st_op E (op_index 2 (E.get rfl) (by omega)) (by decide) rfl (fun a E => ?_)
    refine st_op E (op_field 1 (by omega) (E.get rfl)) (by decide) rfl (fun a E => ?_)
    refine st_op E (op_load 38 (by simp) (E.get rfl) d2_1) (by decide) rfl (fun a E => ?_)
    refine st_op E (op_conv 51 .u16 65536 n2 (by simp) (E.get rfl) h2) (by decide) rfl (fun a E => ?_)
    have e143 := E.get (i := 143) rfl
    have e148 := E.get (i := 148) rfl
    have e153 := E.get (i := 153) rfl
    refine st_op E (op_build 118 #[(0, .int .u16 n0), (1, .int .u32 n1), (2, .int .u16 n2)] (by simp [e143, e148, e153]) (cells := (.int .u16 n0 :: .int .u32 n1 :: .int .u16 n2 :: []).toArray) (by kernel_rfl)) (by decide) rfl (fun a E => ?_)
    refine wpStill_nil ?_
    change wpList _ _ _ _ _ _
    refine lt_op E (op_box 118 (E.get rfl) (by go_simp)) (by decide) rfl (fun a E => ?_)
    refine lt_op E (op_iface 117 (E.get rfl) (by kernel_rfl)) (by decide) rfl (fun a E => ?_)
    refine lt_op E (op_assign (E.get rfl)) (by decide) rfl (fun a E => ?_)
    refine lt_op E (op_assign rfl) (by decide) rfl (fun a E => ?_)
    exact wp_ret (hQ _ _ (ret_ok E rfl rfl ⟨wX.heap.size, rfl, hbel.size, Blk.new wX 118 _, hbel.alloc hbel.size _⟩))

set_option maxRecDepth 100000 in
/-- ZZMethod: *connectionOpen -/
theorem zz_connectionOpen {w : World} {r c : Nat} (n0 : Nat) (t0 : ByteArray) (b0 : Nat)  (hr : r < w.heap.size)
    (hc : ∀ j u, ([Value.int .i64 4, .int .u64 n0, .string t0, .map (some b0)] : List Value)[j]? = some u → w.cell? ⟨r, j, none⟩ = some u) :
    Calls Tryz.prog 18 #[.int .u16 10, .int .u16 40, .slice (some ⟨r, 0, none⟩) 1 c] w (ZzPost w 119 121 (.string t0 :: .string ⟨#[]⟩ :: .bool false :: []).toArray) := by
  refine zz_prefix (kinds := [4]) (r := r) rfl (ZZKinds_6 w) (fun i hi => ⟨rfl, hr, ?_⟩) (by omega) (fun Q hQ a E => ?_)
  · have hx : i = 0 := by omega
    rcases hx with rfl
    all_goals exact hc _ _ rfl
  · refine sw_to 6 (by decide) rfl (by decide +kernel) (fun a E => ?_) a E
    refine wp_seq ?_
    have d0_2 : ((w.alloc (.cells (intCells [4]).toArray 3))).cell? ⟨r, 2, none⟩ = some (.string t0) := (World.cell?_alloc_lt w _ ⟨r, 2, none⟩ hr).trans (hc 2 _ rfl)
    have hbel : Below w.heap.size w ((w.alloc (.cells (intCells [4]).toArray 3))) := ((Below.refl _ _).alloc (Nat.le_refl _) _)
    refine wp_region_list ?_
    generalize (w.alloc (.cells (intCells [4]).toArray 3)) = wX at d0_2 hbel ⊢
    refine lt_op E (op_move (E.get rfl)) (by decide) rfl (fun a E => ?_)
    refine lt_op E (op_index 0 (E.get rfl) (by omega)) (by decide) rfl (fun a E => ?_)
    refine lt_op E (op_field 2 (by omega) (E.get rfl)) (by decide) rfl (fun a E => ?_)
    refine lt_op E (op_load 9 (by simp) (E.get rfl) d0_2) (by decide) rfl (fun a E => ?_)
    have e163 := E.get (i := 163) rfl
    refine lt_op E (op_build 121 #[(0, .string t0)] (by simp [e163]) (cells := (.string t0 :: .string ⟨#[]⟩ :: .bool false :: []).toArray) (by kernel_rfl)) (by decide) rfl (fun a E => ?_)
    refine lt_op E (op_box 121 (E.get rfl) (by go_simp)) (by decide) rfl (fun a E => ?_)
    refine lt_op E (op_iface 119 (E.get rfl) (by kernel_rfl)) (by decide) rfl (fun a E => ?_)
    refine lt_op E (op_assign (E.get rfl)) (by decide) rfl (fun a E => ?_)
    refine lt_op E (op_assign rfl) (by decide) rfl (fun a E => ?_)
    exact wp_ret (hQ _ _ (ret_ok E rfl rfl ⟨wX.heap.size, rfl, hbel.size, Blk.new wX 121 _, hbel.alloc hbel.size _⟩))

set_option maxRecDepth 100000 in
/-- ZZMethod: *connectionOpenOk -/
theorem zz_connectionOpenOk {w : World} (A : Option Addr) (c : Nat) :
    Calls Tryz.prog 18 #[.int .u16 10, .int .u16 41, .slice A 0 c] w (ZzPost w 122 124 (.string ⟨#[]⟩ :: []).toArray) := by
  refine zz_prefix (kinds := []) (r := 0) rfl (ZZKinds_7 w) (fun i hi => absurd hi (by omega)) (by omega) (fun Q hQ a E => ?_)
  refine sw_to 7 (by decide) rfl (by decide +kernel) (fun a E => ?_) a E
  refine wp_seq ?_
  have hbel : Below w.heap.size w ((w.alloc (.cells (intCells []).toArray 3))) := ((Below.refl _ _).alloc (Nat.le_refl _) _)
  refine wp_region_list ?_
  generalize (w.alloc (.cells (intCells []).toArray 3)) = wX at hbel ⊢
  refine lt_op E (op_build 124 #[] (by simp) (cells := (.string ⟨#[]⟩ :: []).toArray) (by kernel_rfl)) (by decide) rfl (fun a E => ?_)
  refine lt_op E (op_box 124 (E.get rfl) (by go_simp)) (by decide) rfl (fun a E => ?_)
  refine lt_op E (op_iface 122 (E.get rfl) (by kernel_rfl)) (by decide) rfl (fun a E => ?_)
  refine lt_op E (op_assign (E.get rfl)) (by decide) rfl (fun a E => ?_)
  refine lt_op E (op_assign rfl) (by decide) rfl (fun a E => ?_)
  exact wp_ret (hQ _ _ (ret_ok E rfl rfl ⟨wX.heap.size, rfl, hbel.size, Blk.new wX 124 _, hbel.alloc hbel.size _⟩))

set_option maxRecDepth 100000 in
/-- ZZMethod: *connectionClose -/
theorem zz_connectionClose {w : World} {r c : Nat} (n0 n1 n2 n3 : Nat) (t0 t1 t2 t3 : ByteArray) (b0 b1 b2 b3 : Nat) (h0 : n0 < 65536) (h2 : n2 < 65536) (h3 : n3 < 65536) (hr : r < w.heap.size)
    (hc : ∀ j u, ([Value.int .i64 1, .int .u64 n0, .string t0, .map (some b0), .int .i64 4, .int .u64 n1, .string t1, .map (some b1), .int .i64 1, .int .u64 n2, .string t2, .map (some b2), .int .i64 1, .int .u64 n3, .string t3, .map (some b3)] : List Value)[j]? = some u → w.cell? ⟨r, j, none⟩ = some u) :
    Calls Tryz.prog 18 #[.int .u16 10, .int .u16 50, .slice (some ⟨r, 0, none⟩) 4 c] w (ZzPost w 125 127 (.int .u16 n0 :: .string t1 :: .int .u16 n2 :: .int .u16 n3 :: []).toArray) := by
  refine zz_prefix (kinds := [1, 4, 1, 1]) (r := r) rfl (ZZKinds_8 w) (fun i hi => ⟨rfl, hr, ?_⟩) (by omega) (fun Q hQ a E => ?_)
  · have hx : i = 0 ∨ i = 1 ∨ i = 2 ∨ i = 3 := by omega
    rcases hx with rfl | rfl | rfl | rfl
    all_goals exact hc _ _ rfl
  · refine sw_to 8 (by decide) rfl (by decide +kernel) (fun a E => ?_) a E
    refine wp_seq ?_
    have d0_1 : ((w.alloc (.cells (intCells [1, 4, 1, 1]).toArray 3)).drew).cell? ⟨r, 1, none⟩ = some (.int .u64 n0) := (World.cell?_alloc_lt w _ ⟨r, 1, none⟩ hr).trans (hc 1 _ rfl)
    have d1_2 : ((w.alloc (.cells (intCells [1, 4, 1, 1]).toArray 3)).drew).cell? ⟨r, 6, none⟩ = some (.string t1) := (World.cell?_alloc_lt w _ ⟨r, 6, none⟩ hr).trans (hc 6 _ rfl)
    have d2_1 : ((w.alloc (.cells (intCells [1, 4, 1, 1]).toArray 3)).drew).cell? ⟨r, 9, none⟩ = some (.int .u64 n2) := (World.cell?_alloc_lt w _ ⟨r, 9, none⟩ hr).trans (hc 9 _ rfl)
    have d3_1 : ((w.alloc (.cells (intCells [1, 4, 1, 1]).toArray 3)).drew).cell? ⟨r, 13, none⟩ = some (.int .u64 n3) := (World.cell?_alloc_lt w _ ⟨r, 13, none⟩ hr).trans (hc 13 _ rfl)
    have hbel : Below w.heap.size w ((w.alloc (.cells (intCells [1, 4, 1, 1]).toArray 3)).drew) := ((Below.refl _ _).alloc (Nat.le_refl _) _).drew
    refine region_still_tail 20 (by kernel_rfl) (by kernel_rfl) ?_
    simp only [List.take_succ_cons, List.take_zero, List.drop_succ_cons, List.drop_zero]
    generalize (w.alloc (.cells (intCells [1, 4, 1, 1]).toArray 3)).drew = wX at d0_1 d1_2 d2_1 d3_1 hbel ⊢
    refine st_op E (op_move (E.get rfl)) (by decide) rfl (fun a E => ?_)
    refine st_op E (op_index 0 (E.get rfl) (by omega)) (by decide) rfl (fun a E => ?_)
    refine st_op E (op_field 1 (by omega) (E.get rfl)) (by decide) rfl (fun a E => ?_)
    refine st_op E (op_load 38 (by simp) (E.get rfl) d0_1) (by decide) rfl (fun a E => ?_)
    refine st_op E (op_conv 51 .u16 65536 n0 (by simp) (E.get rfl) h0) (by decide) rfl (fun a E => ?_)
    refine st_op E (op_move (E.get rfl)) (by decide) rfl (fun a E => ?_)
    refine st_op E (op_index 1 (E.get rfl) (by omega)) (by decide) rfl (fun a E => ?_)
    refine st_op E (op_field 2 (by omega) (E.get rfl)) (by decide) rfl (fun a E => ?_)
    refine st_op E (op_load 9 (by simp) (E.get rfl) d1_2) (by decide) rfl (fun a E => ?_)
    refine st_op E (op_move (E.get rfl)) (by decide) rfl (fun a E => ?_)
    refine st_op E (op_index 2 (E.get rfl) (by omega)) (by decide) rfl (fun a E => ?_)
    refine st_op E (op_field 1 (by omega) (E.get rfl)) (by decide) rfl (fun a E => ?_)
    refine st_op E (op_load 38 (by simp) (E.get rfl) d2_1) (by decide) rfl (fun a E => ?_)
    refine st_op E (op_conv 51 .u16 65536 n2 (by simp) (E.get rfl) h2) (by decide) rfl (fun a E => ?_)
    refine st_op E (op_move (E.get rfl)) (by decide) rfl (fun a E => ?_)
    refine st_op E (op_index 3 (E.get rfl) (by omega)) (by decide) rfl (fun a E => ?_)
    refine st_op E (op_field 1 (by omega) (E.get rfl)) (by decide) rfl (fun a E => ?_)
    refine st_op E (op_load 38 (by simp) (E.get rfl) d3_1) (by decide) rfl (fun a E => ?_)
    refine st_op E (op_conv 51 .u16 65536 n3 (by simp) (E.get rfl) h3) (by decide) rfl (fun a E => ?_)
    have e180 := E.get (i := 180) rfl
    have e184 := E.get (i := 184) rfl
    have e189 := E.get (i := 189) rfl
    have e194 := E.get (i := 194) rfl
    refine st_op E (op_build 127 #[(0, .int .u16 n0), (1, .string t1), (2, .int .u16 n2), (3, .int .u16 n3)] (by simp [e180, e184, e189, e194]) (cells := (.int .u16 n0 :: .string t1 :: .int .u16 n2 :: .int .u16 n3 :: []).toArray) (by kernel_rfl)) (by decide) rfl (fun a E => ?_)
    refine wpStill_nil ?_
    change wpList _ _ _ _ _ _
    refine lt_op E (op_box 127 (E.get rfl) (by go_simp)) (by decide) rfl (fun a E => ?_)
    refine lt_op E (op_iface 125 (E.get rfl) (by kernel_rfl)) (by decide) rfl (fun a E => ?_)
    refine lt_op E (op_assign (E.get rfl)) (by decide) rfl (fun a E => ?_)
    refine lt_op E (op_assign rfl) (by decide) rfl (fun a E => ?_)
    exact wp_ret (hQ _ _ (ret_ok E rfl rfl ⟨wX.heap.size, rfl, hbel.size, Blk.new wX 127 _, hbel.alloc hbel.size _⟩))

set_option maxRecDepth 100000 in
/-- ZZMethod: *connectionCloseOk -/
theorem zz_connectionCloseOk {w : World} (A : Option Addr) (c : Nat) :
    Calls Tryz.prog 18 #[.int .u16 10, .int .u16 51, .slice A 0 c] w (ZzPost w 128 130 ([]).toArray) := by
  refine zz_prefix (kinds := []) (r := 0) rfl (ZZKinds_9 w) (fun i hi => absurd hi (by omega)) (by omega) (fun Q hQ a E => ?_)
  refine sw_to 9 (by decide) rfl (by decide +kernel) (fun a E => ?_) a E
  refine wp_seq ?_
  have hbel : Below w.heap.size w ((w.alloc (.cells (intCells []).toArray 3))) := ((Below.refl _ _).alloc (Nat.le_refl _) _)
  refine wp_region_list ?_
  generalize (w.alloc (.cells (intCells []).toArray 3)) = wX at hbel ⊢
  refine lt_op E (op_build 130 #[] (by simp) (cells := ([]).toArray) (by kernel_rfl)) (by decide) rfl (fun a E => ?_)
  refine lt_op E (op_box 130 (E.get rfl) (by go_simp)) (by decide) rfl (fun a E => ?_)
  refine lt_op E (op_iface 128 (E.get rfl) (by kernel_rfl)) (by decide) rfl (fun a E => ?_)
  refine lt_op E (op_assign (E.get rfl)) (by decide) rfl (fun a E => ?_)
  refine lt_op E (op_assign rfl) (by decide) rfl (fun a E => ?_)
  exact wp_ret (hQ _ _ (ret_ok E rfl rfl ⟨wX.heap.size, rfl, hbel.size, Blk.new wX 130 _, hbel.alloc hbel.size _⟩))

set_option maxRecDepth 100000 in
/-- ZZMethod: *connectionBlocked -/
theorem zz_connectionBlocked {w : World} {r c : Nat} (n0 : Nat) (t0 : ByteArray) (b0 : Nat)  (hr : r < w.heap.size)
    (hc : ∀ j u, ([Value.int .i64 4, .int .u64 n0, .string t0, .map (some b0)] : List Value)[j]? = some u → w.cell? ⟨r, j, none⟩ = some u) :
    Calls Tryz.prog 18 #[.int .u16 10, .int .u16 60, .slice (some ⟨r, 0, none⟩) 1 c] w (ZzPost w 131 133 (.string t0 :: []).toArray) := by
  refine zz_prefix (kinds := [4]) (r := r) rfl (ZZKinds_10 w) (fun i hi => ⟨rfl, hr, ?_⟩) (by omega) (fun Q hQ a E => ?_)
  · have hx : i = 0 := by omega
    rcases hx with rfl
    all_goals exact hc _ _ rfl
  · refine sw_to 10 (by decide) rfl (by decide +kernel) (fun a E => ?_) a E
    refine wp_seq ?_
    have d0_2 : ((w.alloc (.cells (intCells [4]).toArray 3))).cell? ⟨r, 2, none⟩ = some (.string t0) := (World.cell?_alloc_lt w _ ⟨r, 2, none⟩ hr).trans (hc 2 _ rfl)
    have hbel : Below w.heap.size w ((w.alloc (.cells (intCells [4]).toArray 3))) := ((Below.refl _ _).alloc (Nat.le_refl _) _)
    refine wp_region_list ?_
    generalize (w.alloc (.cells (intCells [4]).toArray 3)) = wX at d0_2 hbel ⊢
    refine lt_op E (op_move (E.get rfl)) (by decide) rfl (fun a E => ?_)
    refine lt_op E (op_index 0 (E.get rfl) (by omega)) (by decide) rfl (fun a E => ?_)
    refine lt_op E (op_field 2 (by omega) (E.get rfl)) (by decide) rfl (fun a E => ?_)
    refine lt_op E (op_load 9 (by simp) (E.get rfl) d0_2) (by decide) rfl (fun a E => ?_)
    have e210 := E.get (i := 210) rfl
    refine lt_op E (op_build 133 #[(0, .string t0)] (by simp [e210]) (cells := (.string t0 :: []).toArray) (by kernel_rfl)) (by decide) rfl (fun a E => ?_)
    refine lt_op E (op_box 133 (E.get rfl) (by go_simp)) (by decide) rfl (fun a E => ?_)
    refine lt_op E (op_iface 131 (E.get rfl) (by kernel_rfl)) (by decide) rfl (fun a E => ?_)
    refine lt_op E (op_assign (E.get rfl)) (by decide) rfl (fun a E => ?_)
    refine lt_op E (op_assign rfl) (by decide) rfl (fun a E => ?_)
    exact wp_ret (hQ _ _ (ret_ok E rfl rfl ⟨wX.heap.size, rfl, hbel.size, Blk.new wX 133 _, hbel.alloc hbel.size _⟩))

set_option maxRecDepth 100000 in
/-- ZZMethod: *connectionUnblocked -/
theorem zz_connectionUnblocked {w : World} (A : Option Addr) (c : Nat) :
    Calls Tryz.prog 18 #[.int .u16 10, .int .u16 61, .slice A 0 c] w (ZzPost w 134 135 ([]).toArray) := by
  refine zz_prefix (kinds := []) (r := 0) rfl (ZZKinds_11 w) (fun i hi => absurd hi (by omega)) (by omega) (fun Q hQ a E => ?_)
  refine sw_to 11 (by decide) rfl (by decide +kernel) (fun a E => ?_) a E
  refine wp_seq ?_
  have hbel : Below w.heap.size w ((w.alloc (.cells (intCells []).toArray 3))) := ((Below.refl _ _).alloc (Nat.le_refl _) _)
  refine wp_region_list ?_
  generalize (w.alloc (.cells (intCells []).toArray 3)) = wX at hbel ⊢
  refine lt_op E (op_build 135 #[] (by simp) (cells := ([]).toArray) (by kernel_rfl)) (by decide) rfl (fun a E => ?_)
  refine lt_op E (op_box 135 (E.get rfl) (by go_simp)) (by decide) rfl (fun a E => ?_)
  refine lt_op E (op_iface 134 (E.get rfl) (by kernel_rfl)) (by decide) rfl (fun a E => ?_)
  refine lt_op E (op_assign (E.get rfl)) (by decide) rfl (fun a E => ?_)
  refine lt_op E (op_assign rfl) (by decide) rfl (fun a E => ?_)
  exact wp_ret (hQ _ _ (ret_ok E rfl rfl ⟨wX.heap.size, rfl, hbel.size, Blk.new wX 135 _, hbel.alloc hbel.size _⟩))

set_option maxRecDepth 100000 in
/-- ZZMethod: *connectionUpdateSecret -/
theorem zz_connectionUpdateSecret {w : World} {r c : Nat} (n0 n1 : Nat) (t0 t1 : ByteArray) (b0 b1 : Nat)  (hr : r < w.heap.size)
    (hc : ∀ j u, ([Value.int .i64 5, .int .u64 n0, .string t0, .map (some b0), .int .i64 4, .int .u64 n1, .string t1, .map (some b1)] : List Value)[j]? = some u → w.cell? ⟨r, j, none⟩ = some u) :
    Calls Tryz.prog 18 #[.int .u16 10, .int .u16 70, .slice (some ⟨r, 0, none⟩) 2 c] w (ZzPost w 136 138 (.string t0 :: .string t1 :: []).toArray) := by
  refine zz_prefix (kinds := [5, 4]) (r := r) rfl (ZZKinds_12 w) (fun i hi => ⟨rfl, hr, ?_⟩) (by omega) (fun Q hQ a E => ?_)
  · have hx : i = 0 ∨ i = 1 := by omega
    rcases hx with rfl | rfl
    all_goals exact hc _ _ rfl
  · refine sw_to 12 (by decide) rfl (by decide +kernel) (fun a E => ?_) a E
    refine wp_seq ?_
    have d0_2 : ((w.alloc (.cells (intCells [5, 4]).toArray 3)).drew).cell? ⟨r, 2, none⟩ = some (.string t0) := (World.cell?_alloc_lt w _ ⟨r, 2, none⟩ hr).trans (hc 2 _ rfl)
    have d1_2 : ((w.alloc (.cells (intCells [5, 4]).toArray 3)).drew).cell? ⟨r, 6, none⟩ = some (.string t1) := (World.cell?_alloc_lt w _ ⟨r, 6, none⟩ hr).trans (hc 6 _ rfl)
    have hbel : Below w.heap.size w ((w.alloc (.cells (intCells [5, 4]).toArray 3)).drew) := ((Below.refl _ _).alloc (Nat.le_refl _) _).drew
    refine region_still_tail 9 (by kernel_rfl) (by kernel_rfl) ?_
    simp only [List.take_succ_cons, List.take_zero, List.drop_succ_cons, List.drop_zero]
    generalize (w.alloc (.cells (intCells [5, 4]).toArray 3)).drew = wX at d0_2 d1_2 hbel ⊢
    refine st_op E (op_move (E.get rfl)) (by decide) rfl (fun a E => ?_)
    refine st_op E (op_index 0 (E.get rfl) (by omega)) (by decide) rfl (fun a E => ?_)
    refine st_op E (op_field 2 (by omega) (E.get rfl)) (by decide) rfl (fun a E => ?_)
    refine st_op E (op_load 9 (by simp) (E.get rfl) d0_2) (by decide) rfl (fun a E => ?_)
    refine st_op E (op_move (E.get rfl)) (by decide) rfl (fun a E => ?_)
    refine st_op E (op_index 1 (E.get rfl) (by omega)) (by decide) rfl (fun a E => ?_)
    refine st_op E (op_field 2 (by omega) (E.get rfl)) (by decide) rfl (fun a E => ?_)
    refine st_op E (op_load 9 (by simp) (E.get rfl) d1_2) (by decide) rfl (fun a E => ?_)
    have e226 := E.get (i := 226) rfl
    have e230 := E.get (i := 230) rfl
    refine st_op E (op_build 138 #[(0, .string t0), (1, .string t1)] (by simp [e226, e230]) (cells := (.string t0 :: .string t1 :: []).toArray) (by kernel_rfl)) (by decide) rfl (fun a E => ?_)
    refine wpStill_nil ?_
    change wpList _ _ _ _ _ _
    refine lt_op E (op_box 138 (E.get rfl) (by go_simp)) (by decide) rfl (fun a E => ?_)
    refine lt_op E (op_iface 136 (E.get rfl) (by kernel_rfl)) (by decide) rfl (fun a E => ?_)
    refine lt_op E (op_assign (E.get rfl)) (by decide) rfl (fun a E => ?_)
    refine lt_op E (op_assign rfl) (by decide) rfl (fun a E => ?_)
    exact wp_ret (hQ _ _ (ret_ok E rfl rfl ⟨wX.heap.size, rfl, hbel.size, Blk.new wX 138 _, hbel.alloc hbel.size _⟩))

set_option maxRecDepth 100000 in
/-- ZZMethod: *connectionUpdateSecretOk -/
theorem zz_connectionUpdateSecretOk {w : World} (A : Option Addr) (c : Nat) :
    Calls Tryz.prog 18 #[.int .u16 10, .int .u16 71, .slice A 0 c] w (ZzPost w 139 140 ([]).toArray) := by
  refine zz_prefix (kinds := []) (r := 0) rfl (ZZKinds_13 w) (fun i hi => absurd hi (by omega)) (by omega) (fun Q hQ a E => ?_)
  refine sw_to 13 (by decide) rfl (by decide +kernel) (fun a E => ?_) a E
  refine wp_seq ?_
  have hbel : Below w.heap.size w ((w.alloc (.cells (intCells []).toArray 3))) := ((Below.refl _ _).alloc (Nat.le_refl _) _)
  refine wp_region_list ?_
  generalize (w.alloc (.cells (intCells []).toArray 3)) = wX at hbel ⊢
  refine lt_op E (op_build 140 #[] (by simp) (cells := ([]).toArray) (by kernel_rfl)) (by decide) rfl (fun a E => ?_)
  refine lt_op E (op_box 140 (E.get rfl) (by go_simp)) (by decide) rfl (fun a E => ?_)
  refine lt_op E (op_iface 139 (E.get rfl) (by kernel_rfl)) (by decide) rfl (fun a E => ?_)
  refine lt_op E (op_assign (E.get rfl)) (by decide) rfl (fun a E => ?_)
  refine lt_op E (op_assign rfl) (by decide) rfl (fun a E => ?_)
  exact wp_ret (hQ _ _ (ret_ok E rfl rfl ⟨wX.heap.size, rfl, hbel.size, Blk.new wX 140 _, hbel.alloc hbel.size _⟩))

set_option maxRecDepth 100000 in
/-- ZZMethod: *channelOpen -/
theorem zz_channelOpen {w : World} (A : Option Addr) (c : Nat) :
    Calls Tryz.prog 18 #[.int .u16 20, .int .u16 10, .slice A 0 c] w (ZzPost w 141 142 (.string ⟨#[]⟩ :: []).toArray) := by
  refine zz_prefix (kinds := []) (r := 0) rfl (ZZKinds_14 w) (fun i hi => absurd hi (by omega)) (by omega) (fun Q hQ a E => ?_)
  refine sw_to 14 (by decide) rfl (by decide +kernel) (fun a E => ?_) a E
  refine wp_seq ?_
  have hbel : Below w.heap.size w ((w.alloc (.cells (intCells []).toArray 3))) := ((Below.refl _ _).alloc (Nat.le_refl _) _)
  refine wp_region_list ?_
  generalize (w.alloc (.cells (intCells []).toArray 3)) = wX at hbel ⊢
  refine lt_op E (op_build 142 #[] (by simp) (cells := (.string ⟨#[]⟩ :: []).toArray) (by kernel_rfl)) (by decide) rfl (fun a E => ?_)
  refine lt_op E (op_box 142 (E.get rfl) (by go_simp)) (by decide) rfl (fun a E => ?_)
  refine lt_op E (op_iface 141 (E.get rfl) (by kernel_rfl)) (by decide) rfl (fun a E => ?_)
  refine lt_op E (op_assign (E.get rfl)) (by decide) rfl (fun a E => ?_)
  refine lt_op E (op_assign rfl) (by decide) rfl (fun a E => ?_)
  exact wp_ret (hQ _ _ (ret_ok E rfl rfl ⟨wX.heap.size, rfl, hbel.size, Blk.new wX 142 _, hbel.alloc hbel.size _⟩))

set_option maxRecDepth 100000 in
/-- ZZMethod: *channelOpenOk -/
theorem zz_channelOpenOk {w : World} (A : Option Addr) (c : Nat) :
    Calls Tryz.prog 18 #[.int .u16 20, .int .u16 11, .slice A 0 c] w (ZzPost w 143 144 (.string ⟨#[]⟩ :: []).toArray) := by
  refine zz_prefix (kinds := []) (r := 0) rfl (ZZKinds_15 w) (fun i hi => absurd hi (by omega)) (by omega) (fun Q hQ a E => ?_)
  refine sw_to 15 (by decide) rfl (by decide +kernel) (fun a E => ?_) a E
  refine wp_seq ?_
  have hbel : Below w.heap.size w ((w.alloc (.cells (intCells []).toArray 3))) := ((Below.refl _ _).alloc (Nat.le_refl _) _)
  refine wp_region_list ?_
  generalize (w.alloc (.cells (intCells []).toArray 3)) = wX at hbel ⊢
  refine lt_op E (op_build 144 #[] (by simp) (cells := (.string ⟨#[]⟩ :: []).toArray) (by kernel_rfl)) (by decide) rfl (fun a E => ?_)
  refine lt_op E (op_box 144 (E.get rfl) (by go_simp)) (by decide) rfl (fun a E => ?_)
  refine lt_op E (op_iface 143 (E.get rfl) (by kernel_rfl)) (by decide) rfl (fun a E => ?_)
  refine lt_op E (op_assign (E.get rfl)) (by decide) rfl (fun a E => ?_)
  refine lt_op E (op_assign rfl) (by decide) rfl (fun a E => ?_)
  exact wp_ret (hQ _ _ (ret_ok E rfl rfl ⟨wX.heap.size, rfl, hbel.size, Blk.new wX 144 _, hbel.alloc hbel.size _⟩))

set_option maxRecDepth 100000 in
/-- ZZMethod: *channelFlow -/
theorem zz_channelFlow {w : World} {r c : Nat} (n0 : Nat) (t0 : ByteArray) (b0 : Nat)  (hr : r < w.heap.size)
    (hc : ∀ j u, ([Value.int .i64 6, .int .u64 n0, .string t0, .map (some b0)] : List Value)[j]? = some u → w.cell? ⟨r, j, none⟩ = some u) :
    Calls Tryz.prog 18 #[.int .u16 20, .int .u16 20, .slice (some ⟨r, 0, none⟩) 1 c] w (ZzPost w 145 147 (.bool ((n0 : Int) != 0) :: []).toArray) := by
  refine zz_prefix (kinds := [6]) (r := r) rfl (ZZKinds_16 w) (fun i hi => ⟨rfl, hr, ?_⟩) (by omega) (fun Q hQ a E => ?_)
  · have hx : i = 0 := by omega
    rcases hx with rfl
    all_goals exact hc _ _ rfl
  · refine sw_to 16 (by decide) rfl (by decide +kernel) (fun a E => ?_) a E
    refine wp_seq ?_
    have d0_1 : ((w.alloc (.cells (intCells [6]).toArray 3))).cell? ⟨r, 1, none⟩ = some (.int .u64 n0) := (World.cell?_alloc_lt w _ ⟨r, 1, none⟩ hr).trans (hc 1 _ rfl)
    have hbel : Below w.heap.size w ((w.alloc (.cells (intCells [6]).toArray 3))) := ((Below.refl _ _).alloc (Nat.le_refl _) _)
    refine wp_region_list ?_
    generalize (w.alloc (.cells (intCells [6]).toArray 3)) = wX at d0_1 hbel ⊢
    refine lt_op E (op_move (E.get rfl)) (by decide) rfl (fun a E => ?_)
    refine lt_op E (op_index 0 (E.get rfl) (by omega)) (by decide) rfl (fun a E => ?_)
    refine lt_op E (op_field 1 (by omega) (E.get rfl)) (by decide) rfl (fun a E => ?_)
    refine lt_op E (op_load 38 (by simp) (E.get rfl) d0_1) (by decide) rfl (fun a E => ?_)
    refine lt_op E (op_ne (n := n0) (E.get rfl)) (by decide) rfl (fun a E => ?_)
    have e259 := E.get (i := 259) rfl
    refine lt_op E (op_build 147 #[(0, .bool ((n0 : Int) != 0))] (by simp [e259]) (cells := (.bool ((n0 : Int) != 0) :: []).toArray) (by kernel_rfl)) (by decide) rfl (fun a E => ?_)
    refine lt_op E (op_box 147 (E.get rfl) (by go_simp)) (by decide) rfl (fun a E => ?_)
    refine lt_op E (op_iface 145 (E.get rfl) (by kernel_rfl)) (by decide) rfl (fun a E => ?_)
    refine lt_op E (op_assign (E.get rfl)) (by decide) rfl (fun a E => ?_)
    refine lt_op E (op_assign rfl) (by decide) rfl (fun a E => ?_)
    exact wp_ret (hQ _ _ (ret_ok E rfl rfl ⟨wX.heap.size, rfl, hbel.size, Blk.new wX 147 _, hbel.alloc hbel.size _⟩))

set_option maxRecDepth 100000 in
/-- ZZMethod: *channelFlowOk -/
theorem zz_channelFlowOk {w : World} {r c : Nat} (n0 : Nat) (t0 : ByteArray) (b0 : Nat)  (hr : r < w.heap.size)
    (hc : ∀ j u, ([Value.int .i64 6, .int .u64 n0, .string t0, .map (some b0)] : List Value)[j]? = some u → w.cell? ⟨r, j, none⟩ = some u) :
    Calls Tryz.prog 18 #[.int .u16 20, .int .u16 21, .slice (some ⟨r, 0, none⟩) 1 c] w (ZzPost w 148 149 (.bool ((n0 : Int) != 0) :: []).toArray) := by
  refine zz_prefix (kinds := [6]) (r := r) rfl (ZZKinds_17 w) (fun i hi => ⟨rfl, hr, ?_⟩) (by omega) (fun Q hQ a E => ?_)
  · have hx : i = 0 := by omega
    rcases hx with rfl
    all_goals exact hc _ _ rfl
  · refine sw_to 17 (by decide) rfl (by decide +kernel) (fun a E => ?_) a E
    refine wp_seq ?_
    have d0_1 : ((w.alloc (.cells (intCells [6]).toArray 3))).cell? ⟨r, 1, none⟩ = some (.int .u64 n0) := (World.cell?_alloc_lt w _ ⟨r, 1, none⟩ hr).trans (hc 1 _ rfl)
    have hbel : Below w.heap.size w ((w.alloc (.cells (intCells [6]).toArray 3))) := ((Below.refl _ _).alloc (Nat.le_refl _) _)
    refine wp_region_list ?_
    generalize (w.alloc (.cells (intCells [6]).toArray 3)) = wX at d0_1 hbel ⊢
    refine lt_op E (op_move (E.get rfl)) (by decide) rfl (fun a E => ?_)
    refine lt_op E (op_index 0 (E.get rfl) (by omega)) (by decide) rfl (fun a E => ?_)
    refine lt_op E (op_field 1 (by omega) (E.get rfl)) (by decide) rfl (fun a E => ?_)
    refine lt_op E (op_load 38 (by simp) (E.get rfl) d0_1) (by decide) rfl (fun a E => ?_)
    refine lt_op E (op_ne (n := n0) (E.get rfl)) (by decide) rfl (fun a E => ?_)
    have e270 := E.get (i := 270) rfl
    refine lt_op E (op_build 149 #[(0, .bool ((n0 : Int) != 0))] (by simp [e270]) (cells := (.bool ((n0 : Int) != 0) :: []).toArray) (by kernel_rfl)) (by decide) rfl (fun a E => ?_)
    refine lt_op E (op_box 149 (E.get rfl) (by go_simp)) (by decide) rfl (fun a E => ?_)
    refine lt_op E (op_iface 148 (E.get rfl) (by kernel_rfl)) (by decide) rfl (fun a E => ?_)
    refine lt_op E (op_assign (E.get rfl)) (by decide) rfl (fun a E => ?_)
    refine lt_op E (op_assign rfl) (by decide) rfl (fun a E => ?_)
    exact wp_ret (hQ _ _ (ret_ok E rfl rfl ⟨wX.heap.size, rfl, hbel.size, Blk.new wX 149 _, hbel.alloc hbel.size _⟩))

set_option maxRecDepth 100000 in
/-- ZZMethod: *channelClose -/
theorem zz_channelClose {w : World} {r c : Nat} (n0 n1 n2 n3 : Nat) (t0 t1 t2 t3 : ByteArray) (b0 b1 b2 b3 : Nat) (h0 : n0 < 65536) (h2 : n2 < 65536) (h3 : n3 < 65536) (hr : r < w.heap.size)
    (hc : ∀ j u, ([Value.int .i64 1, .int .u64 n0, .string t0, .map (some b0), .int .i64 4, .int .u64 n1, .string t1, .map (some b1), .int .i64 1, .int .u64 n2, .string t2, .map (some b2), .int .i64 1, .int .u64 n3, .string t3, .map (some b3)] : List Value)[j]? = some u → w.cell? ⟨r, j, none⟩ = some u) :
    Calls Tryz.prog 18 #[.int .u16 20, .int .u16 40, .slice (some ⟨r, 0, none⟩) 4 c] w (ZzPost w 150 151 (.int .u16 n0 :: .string t1 :: .int .u16 n2 :: .int .u16 n3 :: []).toArray) := by
  refine zz_prefix (kinds := [1, 4, 1, 1]) (r := r) rfl (ZZKinds_18 w) (fun i hi => ⟨rfl, hr, ?_⟩) (by omega) (fun Q hQ a E => ?_)
  · have hx : i = 0 ∨ i = 1 ∨ i = 2 ∨ i = 3 := by omega
    rcases hx with rfl | rfl | rfl | rfl
    all_goals exact hc _ _ rfl
  · refine sw_to 18 (by decide) rfl (by decide +kernel) (fun a E => ?_) a E
    refine wp_seq ?_
    have d0_1 : ((w.alloc (.cells (intCells [1, 4, 1, 1]).toArray 3)).drew).cell? ⟨r, 1, none⟩ = some (.int .u64 n0) := (World.cell?_alloc_lt w _ ⟨r, 1, none⟩ hr).trans (hc 1 _ rfl)
    have d1_2 : ((w.alloc (.cells (intCells [1, 4, 1, 1]).toArray 3)).drew).cell? ⟨r, 6, none⟩ = some (.string t1) := (World.cell?_alloc_lt w _ ⟨r, 6, none⟩ hr).trans (hc 6 _ rfl)
    have d2_1 : ((w.alloc (.cells (intCells [1, 4, 1, 1]).toArray 3)).drew).cell? ⟨r, 9, none⟩ = some (.int .u64 n2) := (World.cell?_alloc_lt w _ ⟨r, 9, none⟩ hr).trans (hc 9 _ rfl)
    have d3_1 : ((w.alloc (.cells (intCells [1, 4, 1, 1]).toArray 3)).drew).cell? ⟨r, 13, none⟩ = some (.int .u64 n3) := (World.cell?_alloc_lt w _ ⟨r, 13, none⟩ hr).trans (hc 13 _ rfl)
    have hbel : Below w.heap.size w ((w.alloc (.cells (intCells [1, 4, 1, 1]).toArray 3)).drew) := ((Below.refl _ _).alloc (Nat.le_refl _) _).drew
    refine region_still_tail 20 (by kernel_rfl) (by kernel_rfl) ?_
    simp only [List.take_succ_cons, List.take_zero, List.drop_succ_cons, List.drop_zero]
    generalize (w.alloc (.cells (intCells [1, 4, 1, 1]).toArray 3)).drew = wX at d0_1 d1_2 d2_1 d3_1 hbel ⊢
    refine st_op E (op_move (E.get rfl)) (by decide) rfl (fun a E => ?_)
    refine st_op E (op_index 0 (E.get rfl) (by omega)) (by decide) rfl (fun a E => ?_)
    refine st_op E (op_field 1 (by omega) (E.get rfl)) (by decide) rfl (fun a E => ?_)
    refine st_op E (op_load 38 (by simp) (E.get rfl) d0_1) (by decide) rfl (fun a E => ?_)
    refine st_op E (op_conv 51 .u16 65536 n0 (by simp) (E.get rfl) h0) (by decide) rfl (fun a E => ?_)
    refine st_op E (op_move (E.get rfl)) (by decide) rfl (fun a E => ?_)
    refine st_op E (op_index 1 (E.get rfl) (by omega)) (by decide) rfl (fun a E => ?_)
    refine st_op E (op_field 2 (by omega) (E.get rfl)) (by decide) rfl (fun a E => ?_)
    refine st_op E (op_load 9 (by simp) (E.get rfl) d1_2) (by decide) rfl (fun a E => ?_)
    refine st_op E (op_move (E.get rfl)) (by decide) rfl (fun a E => ?_)
    refine st_op E (op_index 2 (E.get rfl) (by omega)) (by decide) rfl (fun a E => ?_)
    refine st_op E (op_field 1 (by omega) (E.get rfl)) (by decide) rfl (fun a E => ?_)
    refine st_op E (op_load 38 (by simp) (E.get rfl) d2_1) (by decide) rfl (fun a E => ?_)
    refine st_op E (op_conv 51 .u16 65536 n2 (by simp) (E.get rfl) h2) (by decide) rfl (fun a E => ?_)
    refine st_op E (op_move (E.get rfl)) (by decide) rfl (fun a E => ?_)
    refine st_op E (op_index 3 (E.get rfl) (by omega)) (by decide) rfl (fun a E => ?_)
    refine st_op E (op_field 1 (by omega) (E.get rfl)) (by decide) rfl (fun a E => ?_)
    refine st_op E (op_load 38 (by simp) (E.get rfl) d3_1) (by decide) rfl (fun a E => ?_)
    refine st_op E (op_conv 51 .u16 65536 n3 (by simp) (E.get rfl) h3) (by decide) rfl (fun a E => ?_)
    have e281 := E.get (i := 281) rfl
    have e285 := E.get (i := 285) rfl
    have e290 := E.get (i := 290) rfl
    have e295 := E.get (i := 295) rfl
    refine st_op E (op_build 151 #[(0, .int .u16 n0), (1, .string t1), (2, .int .u16 n2), (3, .int .u16 n3)] (by simp [e281, e285, e290, e295]) (cells := (.int .u16 n0 :: .string t1 :: .int .u16 n2 :: .int .u16 n3 :: []).toArray) (by kernel_rfl)) (by decide) rfl (fun a E => ?_)
    refine wpStill_nil ?_
    change wpList _ _ _ _ _ _
    refine lt_op E (op_box 151 (E.get rfl) (by go_simp)) (by decide) rfl (fun a E => ?_)
    refine lt_op E (op_iface 150 (E.get rfl) (by kernel_rfl)) (by decide) rfl (fun a E => ?_)
    refine lt_op E (op_assign (E.get rfl)) (by decide) rfl (fun a E => ?_)
    refine lt_op E (op_assign rfl) (by decide) rfl (fun a E => ?_)
    exact wp_ret (hQ _ _ (ret_ok E rfl rfl ⟨wX.heap.size, rfl, hbel.size, Blk.new wX 151 _, hbel.alloc hbel.size _⟩))

set_option maxRecDepth 100000 in
/-- ZZMethod: *channelCloseOk -/
theorem zz_channelCloseOk {w : World} (A : Option Addr) (c : Nat) :
    Calls Tryz.prog 18 #[.int .u16 20, .int .u16 41, .slice A 0 c] w (ZzPost w 152 153 ([]).toArray) := by
  refine zz_prefix (kinds := []) (r := 0) rfl (ZZKinds_19 w) (fun i hi => absurd hi (by omega)) (by omega) (fun Q hQ a E => ?_)
  refine sw_to 19 (by decide) rfl (by decide +kernel) (fun a E => ?_) a E
  refine wp_seq ?_
  have hbel : Below w.heap.size w ((w.alloc (.cells (intCells []).toArray 3))) := ((Below.refl _ _).alloc (Nat.le_refl _) _)
  refine wp_region_list ?_
  generalize (w.alloc (.cells (intCells []).toArray 3)) = wX at hbel ⊢
  refine lt_op E (op_build 153 #[] (by simp) (cells := ([]).toArray) (by kernel_rfl)) (by decide) rfl (fun a E => ?_)
  refine lt_op E (op_box 153 (E.get rfl) (by go_simp)) (by decide) rfl (fun a E => ?_)
  refine lt_op E (op_iface 152 (E.get rfl) (by kernel_rfl)) (by decide) rfl (fun a E => ?_)
  refine lt_op E (op_assign (E.get rfl)) (by decide) rfl (fun a E => ?_)
  refine lt_op E (op_assign rfl) (by decide) rfl (fun a E => ?_)
  exact wp_ret (hQ _ _ (ret_ok E rfl rfl ⟨wX.heap.size, rfl, hbel.size, Blk.new wX 153 _, hbel.alloc hbel.size _⟩))

set_option maxRecDepth 100000 in
/-- ZZMethod: *exchangeDeclare -/
theorem zz_exchangeDeclare {w : World} {r c : Nat} (n0 n1 n2 n3 n4 n5 n6 n7 : Nat) (t0 t1 t2 t3 t4 t5 t6 t7 : ByteArray) (b0 b1 b2 b3 b4 b5 b6 b7 : Nat)  (hr : r < w.heap.size)
    (hc : ∀ j u, ([Value.int .i64 4, .int .u64 n0, .string t0, .map (some b0), .int .i64 4, .int .u64 n1, .string t1, .map (some b1), .int .i64 6, .int .u64 n2, .string t2, .map (some b2), .int .i64 6, .int .u64 n3, .string t3, .map (some b3), .int .i64 6, .int .u64 n4, .string t4, .map (some b4), .int .i64 6, .int .u64 n5, .string t5, .map (some b5), .int .i64 6, .int .u64 n6, .string t6, .map (some b6), .int .i64 7, .int .u64 n7, .string t7, .map (some b7)] : List Value)[j]? = some u → w.cell? ⟨r, j, none⟩ = some u) :
    Calls Tryz.prog 18 #[.int .u16 40, .int .u16 10, .slice (some ⟨r, 0, none⟩) 8 c] w (ZzPost w 154 156 (.int .u16 0 :: .string t0 :: .string t1 :: .bool ((n2 : Int) != 0) :: .bool ((n3 : Int) != 0) :: .bool ((n4 : Int) != 0) :: .bool ((n5 : Int) != 0) :: .bool ((n6 : Int) != 0) :: .map (some b7) :: []).toArray) := by
  refine zz_prefix (kinds := [4, 4, 6, 6, 6, 6, 6, 7]) (r := r) rfl (ZZKinds_20 w) (fun i hi => ⟨rfl, hr, ?_⟩) (by omega) (fun Q hQ a E => ?_)
  · have hx : i = 0 ∨ i = 1 ∨ i = 2 ∨ i = 3 ∨ i = 4 ∨ i = 5 ∨ i = 6 ∨ i = 7 := by omega
    rcases hx with rfl | rfl | rfl | rfl | rfl | rfl | rfl | rfl
    all_goals exact hc _ _ rfl
  · refine sw_to 20 (by decide) rfl (by decide +kernel) (fun a E => ?_) a E
    refine wp_seq ?_
    have d0_2 : ((w.alloc (.cells (intCells [4, 4, 6, 6, 6, 6, 6, 7]).toArray 3)).drew).cell? ⟨r, 2, none⟩ = some (.string t0) := (World.cell?_alloc_lt w _ ⟨r, 2, none⟩ hr).trans (hc 2 _ rfl)
    have d1_2 : ((w.alloc (.cells (intCells [4, 4, 6, 6, 6, 6, 6, 7]).toArray 3)).drew).cell? ⟨r, 6, none⟩ = some (.string t1) := (World.cell?_alloc_lt w _ ⟨r, 6, none⟩ hr).trans (hc 6 _ rfl)
    have d2_1 : ((w.alloc (.cells (intCells [4, 4, 6, 6, 6, 6, 6, 7]).toArray 3)).drew).cell? ⟨r, 9, none⟩ = some (.int .u64 n2) := (World.cell?_alloc_lt w _ ⟨r, 9, none⟩ hr).trans (hc 9 _ rfl)
    have d3_1 : ((w.alloc (.cells (intCells [4, 4, 6, 6, 6, 6, 6, 7]).toArray 3)).drew).cell? ⟨r, 13, none⟩ = some (.int .u64 n3) := (World.cell?_alloc_lt w _ ⟨r, 13, none⟩ hr).trans (hc 13 _ rfl)
    have d4_1 : ((w.alloc (.cells (intCells [4, 4, 6, 6, 6, 6, 6, 7]).toArray 3)).drew).cell? ⟨r, 17, none⟩ = some (.int .u64 n4) := (World.cell?_alloc_lt w _ ⟨r, 17, none⟩ hr).trans (hc 17 _ rfl)
    have d5_1 : ((w.alloc (.cells (intCells [4, 4, 6, 6, 6, 6, 6, 7]).toArray 3)).drew).cell? ⟨r, 21, none⟩ = some (.int .u64 n5) := (World.cell?_alloc_lt w _ ⟨r, 21, none⟩ hr).trans (hc 21 _ rfl)
    have d6_1 : ((w.alloc (.cells (intCells [4, 4, 6, 6, 6, 6, 6, 7]).toArray 3)).drew).cell? ⟨r, 25, none⟩ = some (.int .u64 n6) := (World.cell?_alloc_lt w _ ⟨r, 25, none⟩ hr).trans (hc 25 _ rfl)
    have d7_3 : ((w.alloc (.cells (intCells [4, 4, 6, 6, 6, 6, 6, 7]).toArray 3)).drew).cell? ⟨r, 31, none⟩ = some (.map (some b7)) := (World.cell?_alloc_lt w _ ⟨r, 31, none⟩ hr).trans (hc 31 _ rfl)
    have hbel : Below w.heap.size w ((w.alloc (.cells (intCells [4, 4, 6, 6, 6, 6, 6, 7]).toArray 3)).drew) := ((Below.refl _ _).alloc (Nat.le_refl _) _).drew
    refine region_still_tail 38 (by kernel_rfl) (by kernel_rfl) ?_
    simp only [List.take_succ_cons, List.take_zero, List.drop_succ_cons, List.drop_zero]
    generalize (w.alloc (.cells (intCells [4, 4, 6, 6, 6, 6, 6, 7]).toArray 3)).drew = wX at d0_2 d1_2 d2_1 d3_1 d4_1 d5_1 d6_1 d7_3 hbel ⊢
    refine st_op E (op_move (E.get rfl)) (by decide) rfl (fun a E => ?_)
    refine st_op E (op_index 0 (E.get rfl) (by omega)) (by decide) rfl (fun a E => ?_)
    refine st_op E (op_field 2 (by omega) (E.get rfl)) (by decide) rfl (fun a E => ?_)
    refine st_op E (op_load 9 (by simp) (E.get rfl) d0_2) (by decide) rfl (fun a E => ?_)
    refine st_op E (op_move (E.get rfl)) (by decide) rfl (fun a E => ?_)
    refine st_op E (op_index 1 (E.get rfl) (by omega)) (by decide) rfl (fun a E => ?_)
    refine st_op E (op_field 2 (by omega) (E.get rfl)) (by decide) rfl (fun a E => ?_)
    refine st_op E (op_load 9 (by simp) (E.get rfl) d1_2) (by decide) rfl (fun a E => ?_)
    refine st_op E (op_move (E.get rfl)) (by decide) rfl (fun a E => ?_)
    refine st_op E (op_index 2 (E.get rfl) (by omega)) (by decide) rfl (fun a E => ?_)
    refine st_op E (op_field 1 (by omega) (E.get rfl)) (by decide) rfl (fun a E => ?_)
    refine st_op E (op_load 38 (by simp) (E.get rfl) d2_1) (by decide) rfl (fun a E => ?_)
    refine st_op E (op_ne (n := n2) (E.get rfl)) (by decide) rfl (fun a E => ?_)
    refine st_op E (op_move (E.get rfl)) (by decide) rfl (fun a E => ?_)
    refine st_op E (op_index 3 (E.get rfl) (by omega)) (by decide) rfl (fun a E => ?_)
    refine st_op E (op_field 1 (by omega) (E.get rfl)) (by decide) rfl (fun a E => ?_)
    refine st_op E (op_load 38 (by simp) (E.get rfl) d3_1) (by decide) rfl (fun a E => ?_)
    refine st_op E (op_ne (n := n3) (E.get rfl)) (by decide) rfl (fun a E => ?_)
    refine st_op E (op_move (E.get rfl)) (by decide) rfl (fun a E => ?_)
    refine st_op E (op_index 4 (E.get rfl) (by omega)) (by decide) rfl (fun a E => ?_)
    refine st_op E (op_field 1 (by omega) (E.get rfl)) (by decide) rfl (fun a E => ?_)
    refine st_op E (op_load 38 (by simp) (E.get rfl) d4_1) (by decide) rfl (fun a E => ?_)
    refine st_op E (op_ne (n := n4) (E.get rfl)) (by decide) rfl (fun a E => ?_)
    refine st_op E (op_move (E.get rfl)) (by decide) rfl (fun a E => ?_)
    refine st_op E (op_index 5 (E.get rfl) (by omega)) (by decide) rfl (fun a E => ?_)
    refine st_op E (op_field 1 (by omega) (E.get rfl)) (by decide) rfl (fun a E => ?_)
    refine st_op E (op_load 38 (by simp) (E.get rfl) d5_1) (by decide) rfl (fun a E => ?_)
    refine st_op E (op_ne (n := n5) (E.get rfl)) (by decide) rfl (fun a E => ?_)
    refine st_op E (op_move (E.get rfl)) (by decide) rfl (fun a E => ?_)
    refine st_op E (op_index 6 (E.get rfl) (by omega)) (by decide) rfl (fun a E => ?_)
    refine st_op E (op_field 1 (by omega) (E.get rfl)) (by decide) rfl (fun a E => ?_)
    refine st_op E (op_load 38 (by simp) (E.get rfl) d6_1) (by decide) rfl (fun a E => ?_)
    refine st_op E (op_ne (n := n6) (E.get rfl)) (by decide) rfl (fun a E => ?_)
    refine st_op E (op_move (E.get rfl)) (by decide) rfl (fun a E => ?_)
    refine st_op E (op_index 7 (E.get rfl) (by omega)) (by decide) rfl (fun a E => ?_)
    refine st_op E (op_field 3 (by omega) (E.get rfl)) (by decide) rfl (fun a E => ?_)
    refine st_op E (op_load 56 (by simp) (E.get rfl) d7_3) (by decide) rfl (fun a E => ?_)
    have e311 := E.get (i := 311) rfl
    have e315 := E.get (i := 315) rfl
    have e320 := E.get (i := 320) rfl
    have e325 := E.get (i := 325) rfl
    have e330 := E.get (i := 330) rfl
    have e335 := E.get (i := 335) rfl
    have e340 := E.get (i := 340) rfl
    have e344 := E.get (i := 344) rfl
    refine st_op E (op_build 156 #[(1, .string t0), (2, .string t1), (3, .bool ((n2 : Int) != 0)), (4, .bool ((n3 : Int) != 0)), (5, .bool ((n4 : Int) != 0)), (6, .bool ((n5 : Int) != 0)), (7, .bool ((n6 : Int) != 0)), (8, .map (some b7))] (by simp [e311, e315, e320, e325, e330, e335, e340, e344]) (cells := (.int .u16 0 :: .string t0 :: .string t1 :: .bool ((n2 : Int) != 0) :: .bool ((n3 : Int) != 0) :: .bool ((n4 : Int) != 0) :: .bool ((n5 : Int) != 0) :: .bool ((n6 : Int) != 0) :: .map (some b7) :: []).toArray) (by kernel_rfl)) (by decide) rfl (fun a E => ?_)
    refine wpStill_nil ?_
    change wpList _ _ _ _ _ _
    refine lt_op E (op_box 156 (E.get rfl) (by go_simp)) (by decide) rfl (fun a E => ?_)
    refine lt_op E (op_iface 154 (E.get rfl) (by kernel_rfl)) (by decide) rfl (fun a E => ?_)
    refine lt_op E (op_assign (E.get rfl)) (by decide) rfl (fun a E => ?_)
    refine lt_op E (op_assign rfl) (by decide) rfl (fun a E => ?_)
    exact wp_ret (hQ _ _ (ret_ok E rfl rfl ⟨wX.heap.size, rfl, hbel.size, Blk.new wX 156 _, hbel.alloc hbel.size _⟩))

set_option maxRecDepth 100000 in
/-- ZZMethod: *exchangeDeclareOk -/
theorem zz_exchangeDeclareOk {w : World} (A : Option Addr) (c : Nat) :
    Calls Tryz.prog 18 #[.int .u16 40, .int .u16 11, .slice A 0 c] w (ZzPost w 157 158 ([]).toArray) := by
  refine zz_prefix (kinds := []) (r := 0) rfl (ZZKinds_21 w) (fun i hi => absurd hi (by omega)) (by omega) (fun Q hQ a E => ?_)
  refine sw_to 21 (by decide) rfl (by decide +kernel) (fun a E => ?_) a E
  refine wp_seq ?_
  have hbel : Below w.heap.size w ((w.alloc (.cells (intCells []).toArray 3))) := ((Below.refl _ _).alloc (Nat.le_refl _) _)
  refine wp_region_list ?_
  generalize (w.alloc (.cells (intCells []).toArray 3)) = wX at hbel ⊢
  refine lt_op E (op_build 158 #[] (by simp) (cells := ([]).toArray) (by kernel_rfl)) (by decide) rfl (fun a E => ?_)
  refine lt_op E (op_box 158 (E.get rfl) (by go_simp)) (by decide) rfl (fun a E => ?_)
  refine lt_op E (op_iface 157 (E.get rfl) (by kernel_rfl)) (by decide) rfl (fun a E => ?_)
  refine lt_op E (op_assign (E.get rfl)) (by decide) rfl (fun a E => ?_)
  refine lt_op E (op_assign rfl) (by decide) rfl (fun a E => ?_)
  exact wp_ret (hQ _ _ (ret_ok E rfl rfl ⟨wX.heap.size, rfl, hbel.size, Blk.new wX 158 _, hbel.alloc hbel.size _⟩))

end Go.Proofs.YtabeppaehenefaaGreat
