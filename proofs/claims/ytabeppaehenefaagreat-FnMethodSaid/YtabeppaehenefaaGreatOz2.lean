/-
  FnMethod: ZZMethod method by method, part 2 (printed by a program).
-/
import Derived.Test.YtabeppaehenefaaGreatOd
namespace Go.Proofs.YtabeppaehenefaaGreat
open Go.RowKit
set_option linter.unusedVariables false

set_option maxRecDepth 100000 in
/-- ZZMethod: *exchangeDelete -/
theorem zz_exchangeDelete {w : World} {r c : Nat} (n0 n1 n2 : Nat) (t0 t1 t2 : ByteArray) (b0 b1 b2 : Nat)  (hr : r < w.heap.size)
    (hc : ∀ j u, ([Value.int .i64 4, .int .u64 n0, .string t0, .map (some b0), .int .i64 6, .int .u64 n1, .string t1, .map (some b1), .int .i64 6, .int .u64 n2, .string t2, .map (some b2)] : List Value)[j]? = some u → w.cell? ⟨r, j, none⟩ = some u) :
    Calls Tryz.prog 18 #[.int .u16 40, .int .u16 20, .slice (some ⟨r, 0, none⟩) 3 c] w (ZzPost w 159 161 (.int .u16 0 :: .string t0 :: .bool ((n1 : Int) != 0) :: .bool ((n2 : Int) != 0) :: []).toArray) := by
  refine zz_prefix (kinds := [4, 6, 6]) (r := r) rfl (ZZKinds_22 w) (fun i hi => ⟨rfl, hr, ?_⟩) (by omega) (fun Q hQ a E => ?_)
  · have hx : i = 0 ∨ i = 1 ∨ i = 2 := by omega
    rcases hx with rfl | rfl | rfl
    all_goals exact hc _ _ rfl
  · refine sw_to 22 (by decide) rfl (by decide +kernel) (fun a E => ?_) a E
    refine wp_seq ?_
    have d0_2 : ((w.alloc (.cells (intCells [4, 6, 6]).toArray 3)).drew).cell? ⟨r, 2, none⟩ = some (.string t0) := (World.cell?_alloc_lt w _ ⟨r, 2, none⟩ hr).trans (hc 2 _ rfl)
    have d1_1 : ((w.alloc (.cells (intCells [4, 6, 6]).toArray 3)).drew).cell? ⟨r, 5, none⟩ = some (.int .u64 n1) := (World.cell?_alloc_lt w _ ⟨r, 5, none⟩ hr).trans (hc 5 _ rfl)
    have d2_1 : ((w.alloc (.cells (intCells [4, 6, 6]).toArray 3)).drew).cell? ⟨r, 9, none⟩ = some (.int .u64 n2) := (World.cell?_alloc_lt w _ ⟨r, 9, none⟩ hr).trans (hc 9 _ rfl)
    have hbel : Below w.heap.size w ((w.alloc (.cells (intCells [4, 6, 6]).toArray 3)).drew) := ((Below.refl _ _).alloc (Nat.le_refl _) _).drew
    refine region_still_tail 15 (by kernel_rfl) (by kernel_rfl) ?_
    simp only [List.take_succ_cons, List.take_zero, List.drop_succ_cons, List.drop_zero]
    generalize (w.alloc (.cells (intCells [4, 6, 6]).toArray 3)).drew = wX at d0_2 d1_1 d2_1 hbel ⊢
    refine st_op E (op_move (E.get rfl)) (by decide) rfl (fun a E => ?_)
    refine st_op E (op_index 0 (E.get rfl) (by omega)) (by decide) rfl (fun a E => ?_)
    refine st_op E (op_field 2 (by omega) (E.get rfl)) (by decide) rfl (fun a E => ?_)
    refine st_op E (op_load 9 (by simp) (E.get rfl) d0_2) (by decide) rfl (fun a E => ?_)
    refine st_op E (op_move (E.get rfl)) (by decide) rfl (fun a E => ?_)
    refine st_op E (op_index 1 (E.get rfl) (by omega)) (by decide) rfl (fun a E => ?_)
    refine st_op E (op_field 1 (by omega) (E.get rfl)) (by decide) rfl (fun a E => ?_)
    refine st_op E (op_load 38 (by simp) (E.get rfl) d1_1) (by decide) rfl (fun a E => ?_)
    refine st_op E (op_ne (n := n1) (E.get rfl)) (by decide) rfl (fun a E => ?_)
    refine st_op E (op_move (E.get rfl)) (by decide) rfl (fun a E => ?_)
    refine st_op E (op_index 2 (E.get rfl) (by omega)) (by decide) rfl (fun a E => ?_)
    refine st_op E (op_field 1 (by omega) (E.get rfl)) (by decide) rfl (fun a E => ?_)
    refine st_op E (op_load 38 (by simp) (E.get rfl) d2_1) (by decide) rfl (fun a E => ?_)
    refine st_op E (op_ne (n := n2) (E.get rfl)) (by decide) rfl (fun a E => ?_)
    have e360 := E.get (i := 360) rfl
    have e365 := E.get (i := 365) rfl
    have e370 := E.get (i := 370) rfl
    refine st_op E (op_build 161 #[(1, .string t0), (2, .bool ((n1 : Int) != 0)), (3, .bool ((n2 : Int) != 0))] (by simp [e360, e365, e370]) (cells := (.int .u16 0 :: .string t0 :: .bool ((n1 : Int) != 0) :: .bool ((n2 : Int) != 0) :: []).toArray) (by kernel_rfl)) (by decide) rfl (fun a E => ?_)
    refine wpStill_nil ?_
    change wpList _ _ _ _ _ _
    refine lt_op E (op_box 161 (E.get rfl) (by go_simp)) (by decide) rfl (fun a E => ?_)
    refine lt_op E (op_iface 159 (E.get rfl) (by kernel_rfl)) (by decide) rfl (fun a E => ?_)
    refine lt_op E (op_assign (E.get rfl)) (by decide) rfl (fun a E => ?_)
    refine lt_op E (op_assign rfl) (by decide) rfl (fun a E => ?_)
    exact wp_ret (hQ _ _ (ret_ok E rfl rfl ⟨wX.heap.size, rfl, hbel.size, Blk.new wX 161 _, hbel.alloc hbel.size _⟩))

set_option maxRecDepth 100000 in
/-- ZZMethod: *exchangeDeleteOk -/
theorem zz_exchangeDeleteOk {w : World} (A : Option Addr) (c : Nat) :
    Calls Tryz.prog 18 #[.int .u16 40, .int .u16 21, .slice A 0 c] w (ZzPost w 162 163 ([]).toArray) := by
  refine zz_prefix (kinds := []) (r := 0) rfl (ZZKinds_23 w) (fun i hi => absurd hi (by omega)) (by omega) (fun Q hQ a E => ?_)
  refine sw_to 23 (by decide) rfl (by decide +kernel) (fun a E => ?_) a E
  refine wp_seq ?_
  have hbel : Below w.heap.size w ((w.alloc (.cells (intCells []).toArray 3))) := ((Below.refl _ _).alloc (Nat.le_refl _) _)
  refine wp_region_list ?_
  generalize (w.alloc (.cells (intCells []).toArray 3)) = wX at hbel ⊢
  refine lt_op E (op_build 163 #[] (by simp) (cells := ([]).toArray) (by kernel_rfl)) (by decide) rfl (fun a E => ?_)
  refine lt_op E (op_box 163 (E.get rfl) (by go_simp)) (by decide) rfl (fun a E => ?_)
  refine lt_op E (op_iface 162 (E.get rfl) (by kernel_rfl)) (by decide) rfl (fun a E => ?_)
  refine lt_op E (op_assign (E.get rfl)) (by decide) rfl (fun a E => ?_)
  refine lt_op E (op_assign rfl) (by decide) rfl (fun a E => ?_)
  exact wp_ret (hQ _ _ (ret_ok E rfl rfl ⟨wX.heap.size, rfl, hbel.size, Blk.new wX 163 _, hbel.alloc hbel.size _⟩))

set_option maxRecDepth 100000 in
/-- ZZMethod: *exchangeBind -/
theorem zz_exchangeBind {w : World} {r c : Nat} (n0 n1 n2 n3 n4 : Nat) (t0 t1 t2 t3 t4 : ByteArray) (b0 b1 b2 b3 b4 : Nat)  (hr : r < w.heap.size)
    (hc : ∀ j u, ([Value.int .i64 4, .int .u64 n0, .string t0, .map (some b0), .int .i64 4, .int .u64 n1, .string t1, .map (some b1), .int .i64 4, .int .u64 n2, .string t2, .map (some b2), .int .i64 6, .int .u64 n3, .string t3, .map (some b3), .int .i64 7, .int .u64 n4, .string t4, .map (some b4)] : List Value)[j]? = some u → w.cell? ⟨r, j, none⟩ = some u) :
    Calls Tryz.prog 18 #[.int .u16 40, .int .u16 30, .slice (some ⟨r, 0, none⟩) 5 c] w (ZzPost w 164 166 (.int .u16 0 :: .string t0 :: .string t1 :: .string t2 :: .bool ((n3 : Int) != 0) :: .map (some b4) :: []).toArray) := by
  refine zz_prefix (kinds := [4, 4, 4, 6, 7]) (r := r) rfl (ZZKinds_24 w) (fun i hi => ⟨rfl, hr, ?_⟩) (by omega) (fun Q hQ a E => ?_)
  · have hx : i = 0 ∨ i = 1 ∨ i = 2 ∨ i = 3 ∨ i = 4 := by omega
    rcases hx with rfl | rfl | rfl | rfl | rfl
    all_goals exact hc _ _ rfl
  · refine sw_to 24 (by decide) rfl (by decide +kernel) (fun a E => ?_) a E
    refine wp_seq ?_
    have d0_2 : ((w.alloc (.cells (intCells [4, 4, 4, 6, 7]).toArray 3)).drew).cell? ⟨r, 2, none⟩ = some (.string t0) := (World.cell?_alloc_lt w _ ⟨r, 2, none⟩ hr).trans (hc 2 _ rfl)
    have d1_2 : ((w.alloc (.cells (intCells [4, 4, 4, 6, 7]).toArray 3)).drew).cell? ⟨r, 6, none⟩ = some (.string t1) := (World.cell?_alloc_lt w _ ⟨r, 6, none⟩ hr).trans (hc 6 _ rfl)
    have d2_2 : ((w.alloc (.cells (intCells [4, 4, 4, 6, 7]).toArray 3)).drew).cell? ⟨r, 10, none⟩ = some (.string t2) := (World.cell?_alloc_lt w _ ⟨r, 10, none⟩ hr).trans (hc 10 _ rfl)
    have d3_1 : ((w.alloc (.cells (intCells [4, 4, 4, 6, 7]).toArray 3)).drew).cell? ⟨r, 13, none⟩ = some (.int .u64 n3) := (World.cell?_alloc_lt w _ ⟨r, 13, none⟩ hr).trans (hc 13 _ rfl)
    have d4_3 : ((w.alloc (.cells (intCells [4, 4, 4, 6, 7]).toArray 3)).drew).cell? ⟨r, 19, none⟩ = some (.map (some b4)) := (World.cell?_alloc_lt w _ ⟨r, 19, none⟩ hr).trans (hc 19 _ rfl)
    have hbel : Below w.heap.size w ((w.alloc (.cells (intCells [4, 4, 4, 6, 7]).toArray 3)).drew) := ((Below.refl _ _).alloc (Nat.le_refl _) _).drew
    refine region_still_tail 22 (by kernel_rfl) (by kernel_rfl) ?_
    simp only [List.take_succ_cons, List.take_zero, List.drop_succ_cons, List.drop_zero]
    generalize (w.alloc (.cells (intCells [4, 4, 4, 6, 7]).toArray 3)).drew = wX at d0_2 d1_2 d2_2 d3_1 d4_3 hbel ⊢
    refine st_op E (op_move (E.get rfl)) (by decide) rfl (fun a E => ?_)
    refine st_op E (op_index 0 (E.get rfl) (by omega)) (by decide) rfl (fun a E => ?_)
    refine st_op E (op_field 2 (by omega) (E.get rfl)) (by decide) rfl (fun a E => ?_)
    refine st_op E (op_load 9 (by simp) (E.get rfl) d0_2) (by decide) rfl (fun a E => ?_)
    refine st_op E (op_move (E.get rfl)) (by decide) rfl (fun a E => ?_)
    refine st_op E (op_index 1 (E.get rfl) (by omega)) (by decide) rfl (fun a E => ?_)
    refine st_op E (op_field 2 (by omega) (E.get rfl)) (by decide) rfl (fun a E => ?_)
    refine st_op E (op_load 9 (by simp) (E.get rfl) d1_2) (by decide) rfl (fun a E => ?_)
    refine st_op E (op_move (E.get rfl)) (by decide) rfl (fun a E => ?_)
    refine st_op E (op_index 2 (E.get rfl) (by omega)) (by decide) rfl (fun a E => ?_)
    refine st_op E (op_field 2 (by omega) (E.get rfl)) (by decide) rfl (fun a E => ?_)
    refine st_op E (op_load 9 (by simp) (E.get rfl) d2_2) (by decide) rfl (fun a E => ?_)
    refine st_op E (op_move (E.get rfl)) (by decide) rfl (fun a E => ?_)
    refine st_op E (op_index 3 (E.get rfl) (by omega)) (by decide) rfl (fun a E => ?_)
    refine st_op E (op_field 1 (by omega) (E.get rfl)) (by decide) rfl (fun a E => ?_)
    refine st_op E (op_load 38 (by simp) (E.get rfl) d3_1) (by decide) rfl (fun a E => ?_)
    refine st_op E (op_ne (n := n3) (E.get rfl)) (by decide) rfl (fun a E => ?_)
    refine st_op E (op_move (E.get rfl)) (by decide) rfl (fun a E => ?_)
    refine st_op E (op_index 4 (E.get rfl) (by omega)) (by decide) rfl (fun a E => ?_)
    refine st_op E (op_field 3 (by omega) (E.get rfl)) (by decide) rfl (fun a E => ?_)
    refine st_op E (op_load 56 (by simp) (E.get rfl) d4_3) (by decide) rfl (fun a E => ?_)
    have e386 := E.get (i := 386) rfl
    have e390 := E.get (i := 390) rfl
    have e394 := E.get (i := 394) rfl
    have e399 := E.get (i := 399) rfl
    have e403 := E.get (i := 403) rfl
    refine st_op E (op_build 166 #[(1, .string t0), (2, .string t1), (3, .string t2), (4, .bool ((n3 : Int) != 0)), (5, .map (some b4))] (by simp [e386, e390, e394, e399, e403]) (cells := (.int .u16 0 :: .string t0 :: .string t1 :: .string t2 :: .bool ((n3 : Int) != 0) :: .map (some b4) :: []).toArray) (by kernel_rfl)) (by decide) rfl (fun a E => ?_)
    refine wpStill_nil ?_
    change wpList _ _ _ _ _ _
    refine lt_op E (op_box 166 (E.get rfl) (by go_simp)) (by decide) rfl (fun a E => ?_)
    refine lt_op E (op_iface 164 (E.get rfl) (by kernel_rfl)) (by decide) rfl (fun a E => ?_)
    refine lt_op E (op_assign (E.get rfl)) (by decide) rfl (fun a E => ?_)
    refine lt_op E (op_assign rfl) (by decide) rfl (fun a E => ?_)
    exact wp_ret (hQ _ _ (ret_ok E rfl rfl ⟨wX.heap.size, rfl, hbel.size, Blk.new wX 166 _, hbel.alloc hbel.size _⟩))

set_option maxRecDepth 100000 in
/-- ZZMethod: *exchangeBindOk -/
theorem zz_exchangeBindOk {w : World} (A : Option Addr) (c : Nat) :
    Calls Tryz.prog 18 #[.int .u16 40, .int .u16 31, .slice A 0 c] w (ZzPost w 167 168 ([]).toArray) := by
  refine zz_prefix (kinds := []) (r := 0) rfl (ZZKinds_25 w) (fun i hi => absurd hi (by omega)) (by omega) (fun Q hQ a E => ?_)
  refine sw_to 25 (by decide) rfl (by decide +kernel) (fun a E => ?_) a E
  refine wp_seq ?_
  have hbel : Below w.heap.size w ((w.alloc (.cells (intCells []).toArray 3))) := ((Below.refl _ _).alloc (Nat.le_refl _) _)
  refine wp_region_list ?_
  generalize (w.alloc (.cells (intCells []).toArray 3)) = wX at hbel ⊢
  refine lt_op E (op_build 168 #[] (by simp) (cells := ([]).toArray) (by kernel_rfl)) (by decide) rfl (fun a E => ?_)
  refine lt_op E (op_box 168 (E.get rfl) (by go_simp)) (by decide) rfl (fun a E => ?_)
  refine lt_op E (op_iface 167 (E.get rfl) (by kernel_rfl)) (by decide) rfl (fun a E => ?_)
  refine lt_op E (op_assign (E.get rfl)) (by decide) rfl (fun a E => ?_)
  refine lt_op E (op_assign rfl) (by decide) rfl (fun a E => ?_)
  exact wp_ret (hQ _ _ (ret_ok E rfl rfl ⟨wX.heap.size, rfl, hbel.size, Blk.new wX 168 _, hbel.alloc hbel.size _⟩))

set_option maxRecDepth 100000 in
/-- ZZMethod: *exchangeUnbind -/
theorem zz_exchangeUnbind {w : World} {r c : Nat} (n0 n1 n2 n3 n4 : Nat) (t0 t1 t2 t3 t4 : ByteArray) (b0 b1 b2 b3 b4 : Nat)  (hr : r < w.heap.size)
    (hc : ∀ j u, ([Value.int .i64 4, .int .u64 n0, .string t0, .map (some b0), .int .i64 4, .int .u64 n1, .string t1, .map (some b1), .int .i64 4, .int .u64 n2, .string t2, .map (some b2), .int .i64 6, .int .u64 n3, .string t3, .map (some b3), .int .i64 7, .int .u64 n4, .string t4, .map (some b4)] : List Value)[j]? = some u → w.cell? ⟨r, j, none⟩ = some u) :
    Calls Tryz.prog 18 #[.int .u16 40, .int .u16 40, .slice (some ⟨r, 0, none⟩) 5 c] w (ZzPost w 169 170 (.int .u16 0 :: .string t0 :: .string t1 :: .string t2 :: .bool ((n3 : Int) != 0) :: .map (some b4) :: []).toArray) := by
  refine zz_prefix (kinds := [4, 4, 4, 6, 7]) (r := r) rfl (ZZKinds_26 w) (fun i hi => ⟨rfl, hr, ?_⟩) (by omega) (fun Q hQ a E => ?_)
  · have hx : i = 0 ∨ i = 1 ∨ i = 2 ∨ i = 3 ∨ i = 4 := by omega
    rcases hx with rfl | rfl | rfl | rfl | rfl
    all_goals exact hc _ _ rfl
  · refine sw_to 26 (by decide) rfl (by decide +kernel) (fun a E => ?_) a E
    refine wp_seq ?_
    have d0_2 : ((w.alloc (.cells (intCells [4, 4, 4, 6, 7]).toArray 3)).drew).cell? ⟨r, 2, none⟩ = some (.string t0) := (World.cell?_alloc_lt w _ ⟨r, 2, none⟩ hr).trans (hc 2 _ rfl)
    have d1_2 : ((w.alloc (.cells (intCells [4, 4, 4, 6, 7]).toArray 3)).drew).cell? ⟨r, 6, none⟩ = some (.string t1) := (World.cell?_alloc_lt w _ ⟨r, 6, none⟩ hr).trans (hc 6 _ rfl)
    have d2_2 : ((w.alloc (.cells (intCells [4, 4, 4, 6, 7]).toArray 3)).drew).cell? ⟨r, 10, none⟩ = some (.string t2) := (World.cell?_alloc_lt w _ ⟨r, 10, none⟩ hr).trans (hc 10 _ rfl)
    have d3_1 : ((w.alloc (.cells (intCells [4, 4, 4, 6, 7]).toArray 3)).drew).cell? ⟨r, 13, none⟩ = some (.int .u64 n3) := (World.cell?_alloc_lt w _ ⟨r, 13, none⟩ hr).trans (hc 13 _ rfl)
    have d4_3 : ((w.alloc (.cells (intCells [4, 4, 4, 6, 7]).toArray 3)).drew).cell? ⟨r, 19, none⟩ = some (.map (some b4)) := (World.cell?_alloc_lt w _ ⟨r, 19, none⟩ hr).trans (hc 19 _ rfl)
    have hbel : Below w.heap.size w ((w.alloc (.cells (intCells [4, 4, 4, 6, 7]).toArray 3)).drew) := ((Below.refl _ _).alloc (Nat.le_refl _) _).drew
    refine region_still_tail 22 (by kernel_rfl) (by kernel_rfl) ?_
    simp only [List.take_succ_cons, List.take_zero, List.drop_succ_cons, List.drop_zero]
    generalize (w.alloc (.cells (intCells [4, 4, 4, 6, 7]).toArray 3)).drew = wX at d0_2 d1_2 d2_2 d3_1 d4_3 hbel ⊢
    refine st_op E (op_move (E.get rfl)) (by decide) rfl (fun a E => ?_)
    refine st_op E (op_index 0 (E.get rfl) (by omega)) (by decide) rfl (fun a E => ?_)
    refine st_op E (op_field 2 (by omega) (E.get rfl)) (by decide) rfl (fun a E => ?_)
    refine st_op E (op_load 9 (by simp) (E.get rfl) d0_2) (by decide) rfl (fun a E => ?_)
    refine st_op E (op_move (E.get rfl)) (by decide) rfl (fun a E => ?_)
    refine st_op E (op_index 1 (E.get rfl) (by omega)) (by decide) rfl (fun a E => ?_)
    refine st_op E (op_field 2 (by omega) (E.get rfl)) (by decide) rfl (fun a E => ?_)
    refine st_op E (op_load 9 (by simp) (E.get rfl) d1_2) (by decide) rfl (fun a E => ?_)
    refine st_op E (op_move (E.get rfl)) (by decide) rfl (fun a E => ?_)
    refine st_op E (op_index 2 (E.get rfl) (by omega)) (by decide) rfl (fun a E => ?_)
    refine st_op E (op_field 2 (by omega) (E.get rfl)) (by decide) rfl (fun a E => ?_)
    refine st_op E (op_load 9 (by simp) (E.get rfl) d2_2) (by decide) rfl (fun a E => ?_)
    refine st_op E (op_move (E.get rfl)) (by decide) rfl (fun a E => ?_)
    refine st_op E (op_index 3 (E.get rfl) (by omega)) (by decide) rfl (fun a E => ?_)
    refine st_op E (op_field 1 (by omega) (E.get rfl)) (by decide) rfl (fun a E => ?_)
    refine st_op E (op_load 38 (by simp) (E.get rfl) d3_1) (by decide) rfl (fun a E => ?_)
    refine st_op E (op_ne (n := n3) (E.get rfl)) (by decide) rfl (fun a E => ?_)
    refine st_op E (op_move (E.get rfl)) (by decide) rfl (fun a E => ?_)
    refine st_op E (op_index 4 (E.get rfl) (by omega)) (by decide) rfl (fun a E => ?_)
    refine st_op E (op_field 3 (by omega) (E.get rfl)) (by decide) rfl (fun a E => ?_)
    refine st_op E (op_load 56 (by simp) (E.get rfl) d4_3) (by decide) rfl (fun a E => ?_)
    have e419 := E.get (i := 419) rfl
    have e423 := E.get (i := 423) rfl
    have e427 := E.get (i := 427) rfl
    have e432 := E.get (i := 432) rfl
    have e436 := E.get (i := 436) rfl
    refine st_op E (op_build 170 #[(1, .string t0), (2, .string t1), (3, .string t2), (4, .bool ((n3 : Int) != 0)), (5, .map (some b4))] (by simp [e419, e423, e427, e432, e436]) (cells := (.int .u16 0 :: .string t0 :: .string t1 :: .string t2 :: .bool ((n3 : Int) != 0) :: .map (some b4) :: []).toArray) (by kernel_rfl)) (by decide) rfl (fun a E => ?_)
    refine wpStill_nil ?_
    change wpList _ _ _ _ _ _
    refine lt_op E (op_box 170 (E.get rfl) (by go_simp)) (by decide) rfl (fun a E => ?_)
    refine lt_op E (op_iface 169 (E.get rfl) (by kernel_rfl)) (by decide) rfl (fun a E => ?_)
    refine lt_op E (op_assign (E.get rfl)) (by decide) rfl (fun a E => ?_)
    refine lt_op E (op_assign rfl) (by decide) rfl (fun a E => ?_)
    exact wp_ret (hQ _ _ (ret_ok E rfl rfl ⟨wX.heap.size, rfl, hbel.size, Blk.new wX 170 _, hbel.alloc hbel.size _⟩))

set_option maxRecDepth 100000 in
/-- ZZMethod: *exchangeUnbindOk -/
theorem zz_exchangeUnbindOk {w : World} (A : Option Addr) (c : Nat) :
    Calls Tryz.prog 18 #[.int .u16 40, .int .u16 51, .slice A 0 c] w (ZzPost w 171 172 ([]).toArray) := by
  refine zz_prefix (kinds := []) (r := 0) rfl (ZZKinds_27 w) (fun i hi => absurd hi (by omega)) (by omega) (fun Q hQ a E => ?_)
  refine sw_to 27 (by decide) rfl (by decide +kernel) (fun a E => ?_) a E
  refine wp_seq ?_
  have hbel : Below w.heap.size w ((w.alloc (.cells (intCells []).toArray 3))) := ((Below.refl _ _).alloc (Nat.le_refl _) _)
  refine wp_region_list ?_
  generalize (w.alloc (.cells (intCells []).toArray 3)) = wX at hbel ⊢
  refine lt_op E (op_build 172 #[] (by simp) (cells := ([]).toArray) (by kernel_rfl)) (by decide) rfl (fun a E => ?_)
  refine lt_op E (op_box 172 (E.get rfl) (by go_simp)) (by decide) rfl (fun a E => ?_)
  refine lt_op E (op_iface 171 (E.get rfl) (by kernel_rfl)) (by decide) rfl (fun a E => ?_)
  refine lt_op E (op_assign (E.get rfl)) (by decide) rfl (fun a E => ?_)
  refine lt_op E (op_assign rfl) (by decide) rfl (fun a E => ?_)
  exact wp_ret (hQ _ _ (ret_ok E rfl rfl ⟨wX.heap.size, rfl, hbel.size, Blk.new wX 172 _, hbel.alloc hbel.size _⟩))

set_option maxRecDepth 100000 in
/-- ZZMethod: *queueDeclare -/
theorem zz_queueDeclare {w : World} {r c : Nat} (n0 n1 n2 n3 n4 n5 n6 : Nat) (t0 t1 t2 t3 t4 t5 t6 : ByteArray) (b0 b1 b2 b3 b4 b5 b6 : Nat)  (hr : r < w.heap.size)
    (hc : ∀ j u, ([Value.int .i64 4, .int .u64 n0, .string t0, .map (some b0), .int .i64 6, .int .u64 n1, .string t1, .map (some b1), .int .i64 6, .int .u64 n2, .string t2, .map (some b2), .int .i64 6, .int .u64 n3, .string t3, .map (some b3), .int .i64 6, .int .u64 n4, .string t4, .map (some b4), .int .i64 6, .int .u64 n5, .string t5, .map (some b5), .int .i64 7, .int .u64 n6, .string t6, .map (some b6)] : List Value)[j]? = some u → w.cell? ⟨r, j, none⟩ = some u) :
    Calls Tryz.prog 18 #[.int .u16 50, .int .u16 10, .slice (some ⟨r, 0, none⟩) 7 c] w (ZzPost w 173 175 (.int .u16 0 :: .string t0 :: .bool ((n1 : Int) != 0) :: .bool ((n2 : Int) != 0) :: .bool ((n3 : Int) != 0) :: .bool ((n4 : Int) != 0) :: .bool ((n5 : Int) != 0) :: .map (some b6) :: []).toArray) := by
  refine zz_prefix (kinds := [4, 6, 6, 6, 6, 6, 7]) (r := r) rfl (ZZKinds_28 w) (fun i hi => ⟨rfl, hr, ?_⟩) (by omega) (fun Q hQ a E => ?_)
  · have hx : i = 0 ∨ i = 1 ∨ i = 2 ∨ i = 3 ∨ i = 4 ∨ i = 5 ∨ i = 6 := by omega
    rcases hx with rfl | rfl | rfl | rfl | rfl | rfl | rfl
    all_goals exact hc _ _ rfl
  · refine sw_to 28 (by decide) rfl (by decide +kernel) (fun a E => ?_) a E
    refine wp_seq ?_
    have d0_2 : ((w.alloc (.cells (intCells [4, 6, 6, 6, 6, 6, 7]).toArray 3)).drew).cell? ⟨r, 2, none⟩ = some (.string t0) := (World.cell?_alloc_lt w _ ⟨r, 2, none⟩ hr).trans (hc 2 _ rfl)
    have d1_1 : ((w.alloc (.cells (intCells [4, 6, 6, 6, 6, 6, 7]).toArray 3)).drew).cell? ⟨r, 5, none⟩ = some (.int .u64 n1) := (World.cell?_alloc_lt w _ ⟨r, 5, none⟩ hr).trans (hc 5 _ rfl)
    have d2_1 : ((w.alloc (.cells (intCells [4, 6, 6, 6, 6, 6, 7]).toArray 3)).drew).cell? ⟨r, 9, none⟩ = some (.int .u64 n2) := (World.cell?_alloc_lt w _ ⟨r, 9, none⟩ hr).trans (hc 9 _ rfl)
    have d3_1 : ((w.alloc (.cells (intCells [4, 6, 6, 6, 6, 6, 7]).toArray 3)).drew).cell? ⟨r, 13, none⟩ = some (.int .u64 n3) := (World.cell?_alloc_lt w _ ⟨r, 13, none⟩ hr).trans (hc 13 _ rfl)
    have d4_1 : ((w.alloc (.cells (intCells [4, 6, 6, 6, 6, 6, 7]).toArray 3)).drew).cell? ⟨r, 17, none⟩ = some (.int .u64 n4) := (World.cell?_alloc_lt w _ ⟨r, 17, none⟩ hr).trans (hc 17 _ rfl)
    have d5_1 : ((w.alloc (.cells (intCells [4, 6, 6, 6, 6, 6, 7]).toArray 3)).drew).cell? ⟨r, 21, none⟩ = some (.int .u64 n5) := (World.cell?_alloc_lt w _ ⟨r, 21, none⟩ hr).trans (hc 21 _ rfl)
    have d6_3 : ((w.alloc (.cells (intCells [4, 6, 6, 6, 6, 6, 7]).toArray 3)).drew).cell? ⟨r, 27, none⟩ = some (.map (some b6)) := (World.cell?_alloc_lt w _ ⟨r, 27, none⟩ hr).trans (hc 27 _ rfl)
    have hbel : Below w.heap.size w ((w.alloc (.cells (intCells [4, 6, 6, 6, 6, 6, 7]).toArray 3)).drew) := ((Below.refl _ _).alloc (Nat.le_refl _) _).drew
    refine region_still_tail 34 (by kernel_rfl) (by kernel_rfl) ?_
    simp only [List.take_succ_cons, List.take_zero, List.drop_succ_cons, List.drop_zero]
    generalize (w.alloc (.cells (intCells [4, 6, 6, 6, 6, 6, 7]).toArray 3)).drew = wX at d0_2 d1_1 d2_1 d3_1 d4_1 d5_1 d6_3 hbel ⊢
    refine st_op E (op_move (E.get rfl)) (by decide) rfl (fun a E => ?_)
    refine st_op E (op_index 0 (E.get rfl) (by omega)) (by decide) rfl (fun a E => ?_)
    refine st_op E (op_field 2 (by omega) (E.get rfl)) (by decide) rfl (fun a E => ?_)
    refine st_op E (op_load 9 (by simp) (E.get rfl) d0_2) (by decide) rfl (fun a E => ?_)
    refine st_op E (op_move (E.get rfl)) (by decide) rfl (fun a E => ?_)
    refine st_op E (op_index 1 (E.get rfl) (by omega)) (by decide) rfl (fun a E => ?_)
    refine st_op E (op_field 1 (by omega) (E.get rfl)) (by decide) rfl (fun a E => ?_)
    refine st_op E (op_load 38 (by simp) (E.get rfl) d1_1) (by decide) rfl (fun a E => ?_)
    refine st_op E (op_ne (n := n1) (E.get rfl)) (by decide) rfl (fun a E => ?_)
    refine st_op E (op_move (E.get rfl)) (by decide) rfl (fun a E => ?_)
    refine st_op E (op_index 2 (E.get rfl) (by omega)) (by decide) rfl (fun a E => ?_)
    refine st_op E (op_field 1 (by omega) (E.get rfl)) (by decide) rfl (fun a E => ?_)
    refine st_op E (op_load 38 (by simp) (E.get rfl) d2_1) (by decide) rfl (fun a E => ?_)
    refine st_op E (op_ne (n := n2) (E.get rfl)) (by decide) rfl (fun a E => ?_)
    refine st_op E (op_move (E.get rfl)) (by decide) rfl (fun a E => ?_)
    refine st_op E (op_index 3 (E.get rfl) (by omega)) (by decide) rfl (fun a E => ?_)
    refine st_op E (op_field 1 (by omega) (E.get rfl)) (by decide) rfl (fun a E => ?_)
    refine st_op E (op_load 38 (by simp) (E.get rfl) d3_1) (by decide) rfl (fun a E => ?_)
    refine st_op E (op_ne (n := n3) (E.get rfl)) (by decide) rfl (fun a E => ?_)
    refine st_op E (op_move (E.get rfl)) (by decide) rfl (fun a E => ?_)
    refine st_op E (op_index 4 (E.get rfl) (by omega)) (by decide) rfl (fun a E => ?_)
    refine st_op E (op_field 1 (by omega) (E.get rfl)) (by decide) rfl (fun a E => ?_)
    refine st_op E (op_load 38 (by simp) (E.get rfl) d4_1) (by decide) rfl (fun a E => ?_)
    refine st_op E (op_ne (n := n4) (E.get rfl)) (by decide) rfl (fun a E => ?_)
    refine st_op E (op_move (E.get rfl)) (by decide) rfl (fun a E => ?_)
    refine st_op E (op_index 5 (E.get rfl) (by omega)) (by decide) rfl (fun a E => ?_)
    refine st_op E (op_field 1 (by omega) (E.get rfl)) (by decide) rfl (fun a E => ?_)
    refine st_op E (op_load 38 (by simp) (E.get rfl) d5_1) (by decide) rfl (fun a E => ?_)
    refine st_op E (op_ne (n := n5) (E.get rfl)) (by decide) rfl (fun a E => ?_)
    refine st_op E (op_move (E.get rfl)) (by decide) rfl (fun a E => ?_)
    refine st_op E (op_index 6 (E.get rfl) (by omega)) (by decide) rfl (fun a E => ?_)
    refine st_op E (op_field 3 (by omega) (E.get rfl)) (by decide) rfl (fun a E => ?_)
    refine st_op E (op_load 56 (by simp) (E.get rfl) d6_3) (by decide) rfl (fun a E => ?_)
    have e452 := E.get (i := 452) rfl
    have e457 := E.get (i := 457) rfl
    have e462 := E.get (i := 462) rfl
    have e467 := E.get (i := 467) rfl
    have e472 := E.get (i := 472) rfl
    have e477 := E.get (i := 477) rfl
    have e481 := E.get (i := 481) rfl
    refine st_op E (op_build 175 #[(1, .string t0), (2, .bool ((n1 : Int) != 0)), (3, .bool ((n2 : Int) != 0)), (4, .bool ((n3 : Int) != 0)), (5, .bool ((n4 : Int) != 0)), (6, .bool ((n5 : Int) != 0)), (7, .map (some b6))] (by simp [e452, e457, e462, e467, e472, e477, e481]) (cells := (.int .u16 0 :: .string t0 :: .bool ((n1 : Int) != 0) :: .bool ((n2 : Int) != 0) :: .bool ((n3 : Int) != 0) :: .bool ((n4 : Int) != 0) :: .bool ((n5 : Int) != 0) :: .map (some b6) :: []).toArray) (by kernel_rfl)) (by decide) rfl (fun a E => ?_)
    refine wpStill_nil ?_
    change wpList _ _ _ _ _ _
    refine lt_op E (op_box 175 (E.get rfl) (by go_simp)) (by decide) rfl (fun a E => ?_)
    refine lt_op E (op_iface 173 (E.get rfl) (by kernel_rfl)) (by decide) rfl (fun a E => ?_)
    refine lt_op E (op_assign (E.get rfl)) (by decide) rfl (fun a E => ?_)
    refine lt_op E (op_assign rfl) (by decide) rfl (fun a E => ?_)
    exact wp_ret (hQ _ _ (ret_ok E rfl rfl ⟨wX.heap.size, rfl, hbel.size, Blk.new wX 175 _, hbel.alloc hbel.size _⟩))

set_option maxRecDepth 100000 in
/-- ZZMethod: *queueDeclareOk -/
theorem zz_queueDeclareOk {w : World} {r c : Nat} (n0 n1 n2 : Nat) (t0 t1 t2 : ByteArray) (b0 b1 b2 : Nat) (h1 : n1 < 4294967296) (h2 : n2 < 4294967296) (hr : r < w.heap.size)
    (hc : ∀ j u, ([Value.int .i64 4, .int .u64 n0, .string t0, .map (some b0), .int .i64 2, .int .u64 n1, .string t1, .map (some b1), .int .i64 2, .int .u64 n2, .string t2, .map (some b2)] : List Value)[j]? = some u → w.cell? ⟨r, j, none⟩ = some u) :
    Calls Tryz.prog 18 #[.int .u16 50, .int .u16 11, .slice (some ⟨r, 0, none⟩) 3 c] w (ZzPost w 176 178 (.string t0 :: .int .u32 n1 :: .int .u32 n2 :: []).toArray) := by
  refine zz_prefix (kinds := [4, 2, 2]) (r := r) rfl (ZZKinds_29 w) (fun i hi => ⟨rfl, hr, ?_⟩) (by omega) (fun Q hQ a E => ?_)
  · have hx : i = 0 ∨ i = 1 ∨ i = 2 := by omega
    rcases hx with rfl | rfl | rfl
    all_goals exact hc _ _ rfl
  · refine sw_to 29 (by decide) rfl (by decide +kernel) (fun a E => ?_) a E
    refine wp_seq ?_
    have d0_2 : ((w.alloc (.cells (intCells [4, 2, 2]).toArray 3)).drew).cell? ⟨r, 2, none⟩ = some (.string t0) := (World.cell?_alloc_lt w _ ⟨r, 2, none⟩ hr).trans (hc 2 _ rfl)
    have d1_1 : ((w.alloc (.cells (intCells [4, 2, 2]).toArray 3)).drew).cell? ⟨r, 5, none⟩ = some (.int .u64 n1) := (World.cell?_alloc_lt w _ ⟨r, 5, none⟩ hr).trans (hc 5 _ rfl)
    have d2_1 : ((w.alloc (.cells (intCells [4, 2, 2]).toArray 3)).drew).cell? ⟨r, 9, none⟩ = some (.int .u64 n2) := (World.cell?_alloc_lt w _ ⟨r, 9, none⟩ hr).trans (hc 9 _ rfl)
    have hbel : Below w.heap.size w ((w.alloc (.cells (intCells [4, 2, 2]).toArray 3)).drew) := ((Below.refl _ _).alloc (Nat.le_refl _) _).drew
    refine region_still_tail 15 (by kernel_rfl) (by kernel_rfl) ?_
    simp only [List.take_succ_cons, List.take_zero, List.drop_succ_cons, List.drop_zero]
    generalize (w.alloc (.cells (intCells [4, 2, 2]).toArray 3)).drew = wX at d0_2 d1_1 d2_1 hbel ⊢
    refine st_op E (op_move (E.get rfl)) (by decide) rfl (fun a E => ?_)
    refine st_op E (op_index 0 (E.get rfl) (by omega)) (by decide) rfl (fun a E => ?_)
    refine st_op E (op_field 2 (by omega) (E.get rfl)) (by decide) rfl (fun a E => ?_)
    refine st_op E (op_load 9 (by simp) (E.get rfl) d0_2) (by decide) rfl (fun a E => ?_)
    refine st_op E (op_move (E.get rfl)) (by decide) rfl (fun a E => ?_)
    refine st_op E (op_index 1 (E.get rfl) (by omega)) (by decide) rfl (fun a E => ?_)
    refine st_op E (op_field 1 (by omega) (E.get rfl)) (by decide) rfl (fun a E => ?_)
    refine st_op E (op_load 38 (by simp) (E.get rfl) d1_1) (by decide) rfl (fun a E => ?_)
    refine st_op E (op_conv 114 .u32 4294967296 n1 (by simp) (E.get rfl) h1) (by decide) rfl (fun a E => ?_)
    refine st_op E (op_move (E.get rfl)) (by decide) rfl (fun a E => ?_)
    refine st_op E (op_index 2 (E.get rfl) (by omega)) (by decide) rfl (fun a E => ?_)
    refine st_op E (op_field 1 (by omega) (E.get rfl)) (by decide) rfl (fun a E => ?_)
    refine st_op E (op_load 38 (by simp) (E.get rfl) d2_1) (by decide) rfl (fun a E => ?_)
    refine st_op E (op_conv 114 .u32 4294967296 n2 (by simp) (E.get rfl) h2) (by decide) rfl (fun a E => ?_)
    have e491 := E.get (i := 491) rfl
    have e496 := E.get (i := 496) rfl
    have e501 := E.get (i := 501) rfl
    refine st_op E (op_build 178 #[(0, .string t0), (1, .int .u32 n1), (2, .int .u32 n2)] (by simp [e491, e496, e501]) (cells := (.string t0 :: .int .u32 n1 :: .int .u32 n2 :: []).toArray) (by kernel_rfl)) (by decide) rfl (fun a E => ?_)
    refine wpStill_nil ?_
    change wpList _ _ _ _ _ _
    refine lt_op E (op_box 178 (E.get rfl) (by go_simp)) (by decide) rfl (fun a E => ?_)
    refine lt_op E (op_iface 176 (E.get rfl) (by kernel_rfl)) (by decide) rfl (fun a E => ?_)
    refine lt_op E (op_assign (E.get rfl)) (by decide) rfl (fun a E => ?_)
    refine lt_op E (op_assign rfl) (by decide) rfl (fun a E => ?_)
    exact wp_ret (hQ _ _ (ret_ok E rfl rfl ⟨wX.heap.size, rfl, hbel.size, Blk.new wX 178 _, hbel.alloc hbel.size _⟩))

set_option maxRecDepth 100000 in
/-- ZZMethod: *queueBind -/
theorem zz_queueBind {w : World} {r c : Nat} (n0 n1 n2 n3 n4 : Nat) (t0 t1 t2 t3 t4 : ByteArray) (b0 b1 b2 b3 b4 : Nat)  (hr : r < w.heap.size)
    (hc : ∀ j u, ([Value.int .i64 4, .int .u64 n0, .string t0, .map (some b0), .int .i64 4, .int .u64 n1, .string t1, .map (some b1), .int .i64 4, .int .u64 n2, .string t2, .map (some b2), .int .i64 6, .int .u64 n3, .string t3, .map (some b3), .int .i64 7, .int .u64 n4, .string t4, .map (some b4)] : List Value)[j]? = some u → w.cell? ⟨r, j, none⟩ = some u) :
    Calls Tryz.prog 18 #[.int .u16 50, .int .u16 20, .slice (some ⟨r, 0, none⟩) 5 c] w (ZzPost w 179 181 (.int .u16 0 :: .string t0 :: .string t1 :: .string t2 :: .bool ((n3 : Int) != 0) :: .map (some b4) :: []).toArray) := by
  refine zz_prefix (kinds := [4, 4, 4, 6, 7]) (r := r) rfl (ZZKinds_30 w) (fun i hi => ⟨rfl, hr, ?_⟩) (by omega) (fun Q hQ a E => ?_)
  · have hx : i = 0 ∨ i = 1 ∨ i = 2 ∨ i = 3 ∨ i = 4 := by omega
    rcases hx with rfl | rfl | rfl | rfl | rfl
    all_goals exact hc _ _ rfl
  · refine sw_to 30 (by decide) rfl (by decide +kernel) (fun a E => ?_) a E
    refine wp_seq ?_
    have d0_2 : ((w.alloc (.cells (intCells [4, 4, 4, 6, 7]).toArray 3)).drew).cell? ⟨r, 2, none⟩ = some (.string t0) := (World.cell?_alloc_lt w _ ⟨r, 2, none⟩ hr).trans (hc 2 _ rfl)
    have d1_2 : ((w.alloc (.cells (intCells [4, 4, 4, 6, 7]).toArray 3)).drew).cell? ⟨r, 6, none⟩ = some (.string t1) := (World.cell?_alloc_lt w _ ⟨r, 6, none⟩ hr).trans (hc 6 _ rfl)
    have d2_2 : ((w.alloc (.cells (intCells [4, 4, 4, 6, 7]).toArray 3)).drew).cell? ⟨r, 10, none⟩ = some (.string t2) := (World.cell?_alloc_lt w _ ⟨r, 10, none⟩ hr).trans (hc 10 _ rfl)
    have d3_1 : ((w.alloc (.cells (intCells [4, 4, 4, 6, 7]).toArray 3)).drew).cell? ⟨r, 13, none⟩ = some (.int .u64 n3) := (World.cell?_alloc_lt w _ ⟨r, 13, none⟩ hr).trans (hc 13 _ rfl)
    have d4_3 : ((w.alloc (.cells (intCells [4, 4, 4, 6, 7]).toArray 3)).drew).cell? ⟨r, 19, none⟩ = some (.map (some b4)) := (World.cell?_alloc_lt w _ ⟨r, 19, none⟩ hr).trans (hc 19 _ rfl)
    have hbel : Below w.heap.size w ((w.alloc (.cells (intCells [4, 4, 4, 6, 7]).toArray 3)).drew) := ((Below.refl _ _).alloc (Nat.le_refl _) _).drew
    refine region_still_tail 22 (by kernel_rfl) (by kernel_rfl) ?_
    simp only [List.take_succ_cons, List.take_zero, List.drop_succ_cons, List.drop_zero]
    generalize (w.alloc (.cells (intCells [4, 4, 4, 6, 7]).toArray 3)).drew = wX at d0_2 d1_2 d2_2 d3_1 d4_3 hbel ⊢
    refine st_op E (op_move (E.get rfl)) (by decide) rfl (fun a E => ?_)
    refine st_op E (op_index 0 (E.get rfl) (by omega)) (by decide) rfl (fun a E => ?_)
    refine st_op E (op_field 2 (by omega) (E.get rfl)) (by decide) rfl (fun a E => ?_)
    refine st_op E (op_load 9 (by simp) (E.get rfl) d0_2) (by decide) rfl (fun a E => ?_)
    refine st_op E (op_move (E.get rfl)) (by decide) rfl (fun a E => ?_)
    refine st_op E (op_index 1 (E.get rfl) (by omega)) (by decide) rfl (fun a E => ?_)
    refine st_op E (op_field 2 (by omega) (E.get rfl)) (by decide) rfl (fun a E => ?_)
    refine st_op E (op_load 9 (by simp) (E.get rfl) d1_2) (by decide) rfl (fun a E => ?_)
    refine st_op E (op_move (E.get rfl)) (by decide) rfl (fun a E => ?_)
    refine st_op E (op_index 2 (E.get rfl) (by omega)) (by decide) rfl (fun a E => ?_)
    refine st_op E (op_field 2 (by omega) (E.get rfl)) (by decide) rfl (fun a E => ?_)
    refine st_op E (op_load 9 (by simp) (E.get rfl) d2_2) (by decide) rfl (fun a E => ?_)
    refine st_op E (op_move (E.get rfl)) (by decide) rfl (fun a E => ?_)
    refine st_op E (op_index 3 (E.get rfl) (by omega)) (by decide) rfl (fun a E => ?_)
    refine st_op E (op_field 1 (by omega) (E.get rfl)) (by decide) rfl (fun a E => ?_)
    refine st_op E (op_load 38 (by simp) (E.get rfl) d3_1) (by decide) rfl (fun a E => ?_)
    refine st_op E (op_ne (n := n3) (E.get rfl)) (by decide) rfl (fun a E => ?_)
    refine st_op E (op_move (E.get rfl)) (by decide) rfl (fun a E => ?_)
    refine st_op E (op_index 4 (E.get rfl) (by omega)) (by decide) rfl (fun a E => ?_)
    refine st_op E (op_field 3 (by omega) (E.get rfl)) (by decide) rfl (fun a E => ?_)
    refine st_op E (op_load 56 (by simp) (E.get rfl) d4_3) (by decide) rfl (fun a E => ?_)
    have e511 := E.get (i := 511) rfl
    have e515 := E.get (i := 515) rfl
    have e519 := E.get (i := 519) rfl
    have e524 := E.get (i := 524) rfl
    have e528 := E.get (i := 528) rfl
    refine st_op E (op_build 181 #[(1, .string t0), (2, .string t1), (3, .string t2), (4, .bool ((n3 : Int) != 0)), (5, .map (some b4))] (by simp [e511, e515, e519, e524, e528]) (cells := (.int .u16 0 :: .string t0 :: .string t1 :: .string t2 :: .bool ((n3 : Int) != 0) :: .map (some b4) :: []).toArray) (by kernel_rfl)) (by decide) rfl (fun a E => ?_)
    refine wpStill_nil ?_
    change wpList _ _ _ _ _ _
    refine lt_op E (op_box 181 (E.get rfl) (by go_simp)) (by decide) rfl (fun a E => ?_)
    refine lt_op E (op_iface 179 (E.get rfl) (by kernel_rfl)) (by decide) rfl (fun a E => ?_)
    refine lt_op E (op_assign (E.get rfl)) (by decide) rfl (fun a E => ?_)
    refine lt_op E (op_assign rfl) (by decide) rfl (fun a E => ?_)
    exact wp_ret (hQ _ _ (ret_ok E rfl rfl ⟨wX.heap.size, rfl, hbel.size, Blk.new wX 181 _, hbel.alloc hbel.size _⟩))

set_option maxRecDepth 100000 in
/-- ZZMethod: *queueBindOk -/
theorem zz_queueBindOk {w : World} (A : Option Addr) (c : Nat) :
    Calls Tryz.prog 18 #[.int .u16 50, .int .u16 21, .slice A 0 c] w (ZzPost w 182 183 ([]).toArray) := by
  refine zz_prefix (kinds := []) (r := 0) rfl (ZZKinds_31 w) (fun i hi => absurd hi (by omega)) (by omega) (fun Q hQ a E => ?_)
  refine sw_to 31 (by decide) rfl (by decide +kernel) (fun a E => ?_) a E
  refine wp_seq ?_
  have hbel : Below w.heap.size w ((w.alloc (.cells (intCells []).toArray 3))) := ((Below.refl _ _).alloc (Nat.le_refl _) _)
  refine wp_region_list ?_
  generalize (w.alloc (.cells (intCells []).toArray 3)) = wX at hbel ⊢
  refine lt_op E (op_build 183 #[] (by simp) (cells := ([]).toArray) (by kernel_rfl)) (by decide) rfl (fun a E => ?_)
  refine lt_op E (op_box 183 (E.get rfl) (by go_simp)) (by decide) rfl (fun a E => ?_)
  refine lt_op E (op_iface 182 (E.get rfl) (by kernel_rfl)) (by decide) rfl (fun a E => ?_)
  refine lt_op E (op_assign (E.get rfl)) (by decide) rfl (fun a E => ?_)
  refine lt_op E (op_assign rfl) (by decide) rfl (fun a E => ?_)
  exact wp_ret (hQ _ _ (ret_ok E rfl rfl ⟨wX.heap.size, rfl, hbel.size, Blk.new wX 183 _, hbel.alloc hbel.size _⟩))

set_option maxRecDepth 100000 in
/-- ZZMethod: *queueUnbind -/
theorem zz_queueUnbind {w : World} {r c : Nat} (n0 n1 n2 n3 : Nat) (t0 t1 t2 t3 : ByteArray) (b0 b1 b2 b3 : Nat)  (hr : r < w.heap.size)
    (hc : ∀ j u, ([Value.int .i64 4, .int .u64 n0, .string t0, .map (some b0), .int .i64 4, .int .u64 n1, .string t1, .map (some b1), .int .i64 4, .int .u64 n2, .string t2, .map (some b2), .int .i64 7, .int .u64 n3, .string t3, .map (some b3)] : List Value)[j]? = some u → w.cell? ⟨r, j, none⟩ = some u) :
    Calls Tryz.prog 18 #[.int .u16 50, .int .u16 50, .slice (some ⟨r, 0, none⟩) 4 c] w (ZzPost w 184 186 (.int .u16 0 :: .string t0 :: .string t1 :: .string t2 :: .map (some b3) :: []).toArray) := by
  refine zz_prefix (kinds := [4, 4, 4, 7]) (r := r) rfl (ZZKinds_32 w) (fun i hi => ⟨rfl, hr, ?_⟩) (by omega) (fun Q hQ a E => ?_)
  · have hx : i = 0 ∨ i = 1 ∨ i = 2 ∨ i = 3 := by omega
    rcases hx with rfl | rfl | rfl | rfl
    all_goals exact hc _ _ rfl
  · refine sw_to 32 (by decide) rfl (by decide +kernel) (fun a E => ?_) a E
    refine wp_seq ?_
    have d0_2 : ((w.alloc (.cells (intCells [4, 4, 4, 7]).toArray 3)).drew).cell? ⟨r, 2, none⟩ = some (.string t0) := (World.cell?_alloc_lt w _ ⟨r, 2, none⟩ hr).trans (hc 2 _ rfl)
    have d1_2 : ((w.alloc (.cells (intCells [4, 4, 4, 7]).toArray 3)).drew).cell? ⟨r, 6, none⟩ = some (.string t1) := (World.cell?_alloc_lt w _ ⟨r, 6, none⟩ hr).trans (hc 6 _ rfl)
    have d2_2 : ((w.alloc (.cells (intCells [4, 4, 4, 7]).toArray 3)).drew).cell? ⟨r, 10, none⟩ = some (.string t2) := (World.cell?_alloc_lt w _ ⟨r, 10, none⟩ hr).trans (hc 10 _ rfl)
    have d3_3 : ((w.alloc (.cells (intCells [4, 4, 4, 7]).toArray 3)).drew).cell? ⟨r, 15, none⟩ = some (.map (some b3)) := (World.cell?_alloc_lt w _ ⟨r, 15, none⟩ hr).trans (hc 15 _ rfl)
    have hbel : Below w.heap.size w ((w.alloc (.cells (intCells [4, 4, 4, 7]).toArray 3)).drew) := ((Below.refl _ _).alloc (Nat.le_refl _) _).drew
    refine region_still_tail 17 (by kernel_rfl) (by kernel_rfl) ?_
    simp only [List.take_succ_cons, List.take_zero, List.drop_succ_cons, List.drop_zero]
    generalize (w.alloc (.cells (intCells [4, 4, 4, 7]).toArray 3)).drew = wX at d0_2 d1_2 d2_2 d3_3 hbel ⊢
    refine st_op E (op_move (E.get rfl)) (by decide) rfl (fun a E => ?_)
    refine st_op E (op_index 0 (E.get rfl) (by omega)) (by decide) rfl (fun a E => ?_)
    refine st_op E (op_field 2 (by omega) (E.get rfl)) (by decide) rfl (fun a E => ?_)
    refine st_op E (op_load 9 (by simp) (E.get rfl) d0_2) (by decide) rfl (fun a E => ?_)
    refine st_op E (op_move (E.get rfl)) (by decide) rfl (fun a E => ?_)
    refine st_op E (op_index 1 (E.get rfl) (by omega)) (by decide) rfl (fun a E => ?_)
    refine st_op E (op_field 2 (by omega) (E.get rfl)) (by decide) rfl (fun a E => ?_)
    refine st_op E (op_load 9 (by simp) (E.get rfl) d1_2) (by decide) rfl (fun a E => ?_)
    refine st_op E (op_move (E.get rfl)) (by decide) rfl (fun a E => ?_)
    refine st_op E (op_index 2 (E.get rfl) (by omega)) (by decide) rfl (fun a E => ?_)
    refine st_op E (op_field 2 (by omega) (E.get rfl)) (by decide) rfl (fun a E => ?_)
    refine st_op E (op_load 9 (by simp) (E.get rfl) d2_2) (by decide) rfl (fun a E => ?_)
    refine st_op E (op_move (E.get rfl)) (by decide) rfl (fun a E => ?_)
    refine st_op E (op_index 3 (E.get rfl) (by omega)) (by decide) rfl (fun a E => ?_)
    refine st_op E (op_field 3 (by omega) (E.get rfl)) (by decide) rfl (fun a E => ?_)
    refine st_op E (op_load 56 (by simp) (E.get rfl) d3_3) (by decide) rfl (fun a E => ?_)
    have e544 := E.get (i := 544) rfl
    have e548 := E.get (i := 548) rfl
    have e552 := E.get (i := 552) rfl
    have e556 := E.get (i := 556) rfl
    refine st_op E (op_build 186 #[(1, .string t0), (2, .string t1), (3, .string t2), (4, .map (some b3))] (by simp [e544, e548, e552, e556]) (cells := (.int .u16 0 :: .string t0 :: .string t1 :: .string t2 :: .map (some b3) :: []).toArray) (by kernel_rfl)) (by decide) rfl (fun a E => ?_)
    refine wpStill_nil ?_
    change wpList _ _ _ _ _ _
    refine lt_op E (op_box 186 (E.get rfl) (by go_simp)) (by decide) rfl (fun a E => ?_)
    refine lt_op E (op_iface 184 (E.get rfl) (by kernel_rfl)) (by decide) rfl (fun a E => ?_)
    refine lt_op E (op_assign (E.get rfl)) (by decide) rfl (fun a E => ?_)
    refine lt_op E (op_assign rfl) (by decide) rfl (fun a E => ?_)
    exact wp_ret (hQ _ _ (ret_ok E rfl rfl ⟨wX.heap.size, rfl, hbel.size, Blk.new wX 186 _, hbel.alloc hbel.size _⟩))

set_option maxRecDepth 100000 in
/-- ZZMethod: *queueUnbindOk -/
theorem zz_queueUnbindOk {w : World} (A : Option Addr) (c : Nat) :
    Calls Tryz.prog 18 #[.int .u16 50, .int .u16 51, .slice A 0 c] w (ZzPost w 187 188 ([]).toArray) := by
  refine zz_prefix (kinds := []) (r := 0) rfl (ZZKinds_33 w) (fun i hi => absurd hi (by omega)) (by omega) (fun Q hQ a E => ?_)
  refine sw_to 33 (by decide) rfl (by decide +kernel) (fun a E => ?_) a E
  refine wp_seq ?_
  have hbel : Below w.heap.size w ((w.alloc (.cells (intCells []).toArray 3))) := ((Below.refl _ _).alloc (Nat.le_refl _) _)
  refine wp_region_list ?_
  generalize (w.alloc (.cells (intCells []).toArray 3)) = wX at hbel ⊢
  refine lt_op E (op_build 188 #[] (by simp) (cells := ([]).toArray) (by kernel_rfl)) (by decide) rfl (fun a E => ?_)
  refine lt_op E (op_box 188 (E.get rfl) (by go_simp)) (by decide) rfl (fun a E => ?_)
  refine lt_op E (op_iface 187 (E.get rfl) (by kernel_rfl)) (by decide) rfl (fun a E => ?_)
  refine lt_op E (op_assign (E.get rfl)) (by decide) rfl (fun a E => ?_)
  refine lt_op E (op_assign rfl) (by decide) rfl (fun a E => ?_)
  exact wp_ret (hQ _ _ (ret_ok E rfl rfl ⟨wX.heap.size, rfl, hbel.size, Blk.new wX 188 _, hbel.alloc hbel.size _⟩))

set_option maxRecDepth 100000 in
/-- ZZMethod: *queuePurge -/
theorem zz_queuePurge {w : World} {r c : Nat} (n0 n1 : Nat) (t0 t1 : ByteArray) (b0 b1 : Nat)  (hr : r < w.heap.size)
    (hc : ∀ j u, ([Value.int .i64 4, .int .u64 n0, .string t0, .map (some b0), .int .i64 6, .int .u64 n1, .string t1, .map (some b1)] : List Value)[j]? = some u → w.cell? ⟨r, j, none⟩ = some u) :
    Calls Tryz.prog 18 #[.int .u16 50, .int .u16 30, .slice (some ⟨r, 0, none⟩) 2 c] w (ZzPost w 189 191 (.int .u16 0 :: .string t0 :: .bool ((n1 : Int) != 0) :: []).toArray) := by
  refine zz_prefix (kinds := [4, 6]) (r := r) rfl (ZZKinds_34 w) (fun i hi => ⟨rfl, hr, ?_⟩) (by omega) (fun Q hQ a E => ?_)
  · have hx : i = 0 ∨ i = 1 := by omega
    rcases hx with rfl | rfl
    all_goals exact hc _ _ rfl
  · refine sw_to 34 (by decide) rfl (by decide +kernel) (fun a E => ?_) a E
    refine wp_seq ?_
    have d0_2 : ((w.alloc (.cells (intCells [4, 6]).toArray 3)).drew).cell? ⟨r, 2, none⟩ = some (.string t0) := (World.cell?_alloc_lt w _ ⟨r, 2, none⟩ hr).trans (hc 2 _ rfl)
    have d1_1 : ((w.alloc (.cells (intCells [4, 6]).toArray 3)).drew).cell? ⟨r, 5, none⟩ = some (.int .u64 n1) := (World.cell?_alloc_lt w _ ⟨r, 5, none⟩ hr).trans (hc 5 _ rfl)
    have hbel : Below w.heap.size w ((w.alloc (.cells (intCells [4, 6]).toArray 3)).drew) := ((Below.refl _ _).alloc (Nat.le_refl _) _).drew
    refine region_still_tail 10 (by kernel_rfl) (by kernel_rfl) ?_
    simp only [List.take_succ_cons, List.take_zero, List.drop_succ_cons, List.drop_zero]
    generalize (w.alloc (.cells (intCells [4, 6]).toArray 3)).drew = wX at d0_2 d1_1 hbel ⊢
    refine st_op E (op_move (E.get rfl)) (by decide) rfl (fun a E => ?_)
    refine st_op E (op_index 0 (E.get rfl) (by omega)) (by decide) rfl (fun a E => ?_)
    refine st_op E (op_field 2 (by omega) (E.get rfl)) (by decide) rfl (fun a E => ?_)
    refine st_op E (op_load 9 (by simp) (E.get rfl) d0_2) (by decide) rfl (fun a E => ?_)
    refine st_op E (op_move (E.get rfl)) (by decide) rfl (fun a E => ?_)
    refine st_op E (op_index 1 (E.get rfl) (by omega)) (by decide) rfl (fun a E => ?_)
    refine st_op E (op_field 1 (by omega) (E.get rfl)) (by decide) rfl (fun a E => ?_)
    refine st_op E (op_load 38 (by simp) (E.get rfl) d1_1) (by decide) rfl (fun a E => ?_)
    refine st_op E (op_ne (n := n1) (E.get rfl)) (by decide) rfl (fun a E => ?_)
    have e572 := E.get (i := 572) rfl
    have e577 := E.get (i := 577) rfl
    refine st_op E (op_build 191 #[(1, .string t0), (2, .bool ((n1 : Int) != 0))] (by simp [e572, e577]) (cells := (.int .u16 0 :: .string t0 :: .bool ((n1 : Int) != 0) :: []).toArray) (by kernel_rfl)) (by decide) rfl (fun a E => ?_)
    refine wpStill_nil ?_
    change wpList _ _ _ _ _ _
    refine lt_op E (op_box 191 (E.get rfl) (by go_simp)) (by decide) rfl (fun a E => ?_)
    refine lt_op E (op_iface 189 (E.get rfl) (by kernel_rfl)) (by decide) rfl (fun a E => ?_)
    refine lt_op E (op_assign (E.get rfl)) (by decide) rfl (fun a E => ?_)
    refine lt_op E (op_assign rfl) (by decide) rfl (fun a E => ?_)
    exact wp_ret (hQ _ _ (ret_ok E rfl rfl ⟨wX.heap.size, rfl, hbel.size, Blk.new wX 191 _, hbel.alloc hbel.size _⟩))

set_option maxRecDepth 100000 in
/-- ZZMethod: *queuePurgeOk -/
theorem zz_queuePurgeOk {w : World} {r c : Nat} (n0 : Nat) (t0 : ByteArray) (b0 : Nat) (h0 : n0 < 4294967296) (hr : r < w.heap.size)
    (hc : ∀ j u, ([Value.int .i64 2, .int .u64 n0, .string t0, .map (some b0)] : List Value)[j]? = some u → w.cell? ⟨r, j, none⟩ = some u) :
    Calls Tryz.prog 18 #[.int .u16 50, .int .u16 31, .slice (some ⟨r, 0, none⟩) 1 c] w (ZzPost w 192 194 (.int .u32 n0 :: []).toArray) := by
  refine zz_prefix (kinds := [2]) (r := r) rfl (ZZKinds_35 w) (fun i hi => ⟨rfl, hr, ?_⟩) (by omega) (fun Q hQ a E => ?_)
  · have hx : i = 0 := by omega
    rcases hx with rfl
    all_goals exact hc _ _ rfl
  · refine sw_to 35 (by decide) rfl (by decide +kernel) (fun a E => ?_) a E
    refine wp_seq ?_
    have d0_1 : ((w.alloc (.cells (intCells [2]).toArray 3))).cell? ⟨r, 1, none⟩ = some (.int .u64 n0) := (World.cell?_alloc_lt w _ ⟨r, 1, none⟩ hr).trans (hc 1 _ rfl)
    have hbel : Below w.heap.size w ((w.alloc (.cells (intCells [2]).toArray 3))) := ((Below.refl _ _).alloc (Nat.le_refl _) _)
    refine wp_region_list ?_
    generalize (w.alloc (.cells (intCells [2]).toArray 3)) = wX at d0_1 hbel ⊢
    refine lt_op E (op_move (E.get rfl)) (by decide) rfl (fun a E => ?_)
    refine lt_op E (op_index 0 (E.get rfl) (by omega)) (by decide) rfl (fun a E => ?_)
    refine lt_op E (op_field 1 (by omega) (E.get rfl)) (by decide) rfl (fun a E => ?_)
    refine lt_op E (op_load 38 (by simp) (E.get rfl) d0_1) (by decide) rfl (fun a E => ?_)
    refine lt_op E (op_conv 114 .u32 4294967296 n0 (by simp) (E.get rfl) h0) (by decide) rfl (fun a E => ?_)
    have e588 := E.get (i := 588) rfl
    refine lt_op E (op_build 194 #[(0, .int .u32 n0)] (by simp [e588]) (cells := (.int .u32 n0 :: []).toArray) (by kernel_rfl)) (by decide) rfl (fun a E => ?_)
    refine lt_op E (op_box 194 (E.get rfl) (by go_simp)) (by decide) rfl (fun a E => ?_)
    refine lt_op E (op_iface 192 (E.get rfl) (by kernel_rfl)) (by decide) rfl (fun a E => ?_)
    refine lt_op E (op_assign (E.get rfl)) (by decide) rfl (fun a E => ?_)
    refine lt_op E (op_assign rfl) (by decide) rfl (fun a E => ?_)
    exact wp_ret (hQ _ _ (ret_ok E rfl rfl ⟨wX.heap.size, rfl, hbel.size, Blk.new wX 194 _, hbel.alloc hbel.size _⟩))

set_option maxRecDepth 100000 in
/-- ZZMethod: *queueDelete -/
theorem zz_queueDelete {w : World} {r c : Nat} (n0 n1 n2 n3 : Nat) (t0 t1 t2 t3 : ByteArray) (b0 b1 b2 b3 : Nat)  (hr : r < w.heap.size)
    (hc : ∀ j u, ([Value.int .i64 4, .int .u64 n0, .string t0, .map (some b0), .int .i64 6, .int .u64 n1, .string t1, .map (some b1), .int .i64 6, .int .u64 n2, .string t2, .map (some b2), .int .i64 6, .int .u64 n3, .string t3, .map (some b3)] : List Value)[j]? = some u → w.cell? ⟨r, j, none⟩ = some u) :
    Calls Tryz.prog 18 #[.int .u16 50, .int .u16 40, .slice (some ⟨r, 0, none⟩) 4 c] w (ZzPost w 195 197 (.int .u16 0 :: .string t0 :: .bool ((n1 : Int) != 0) :: .bool ((n2 : Int) != 0) :: .bool ((n3 : Int) != 0) :: []).toArray) := by
  refine zz_prefix (kinds := [4, 6, 6, 6]) (r := r) rfl (ZZKinds_36 w) (fun i hi => ⟨rfl, hr, ?_⟩) (by omega) (fun Q hQ a E => ?_)
  · have hx : i = 0 ∨ i = 1 ∨ i = 2 ∨ i = 3 := by omega
    rcases hx with rfl | rfl | rfl | rfl
    all_goals exact hc _ _ rfl
  · refine sw_to 36 (by decide) rfl (by decide +kernel) (fun a E => ?_) a E
    refine wp_seq ?_
    have d0_2 : ((w.alloc (.cells (intCells [4, 6, 6, 6]).toArray 3)).drew).cell? ⟨r, 2, none⟩ = some (.string t0) := (World.cell?_alloc_lt w _ ⟨r, 2, none⟩ hr).trans (hc 2 _ rfl)
    have d1_1 : ((w.alloc (.cells (intCells [4, 6, 6, 6]).toArray 3)).drew).cell? ⟨r, 5, none⟩ = some (.int .u64 n1) := (World.cell?_alloc_lt w _ ⟨r, 5, none⟩ hr).trans (hc 5 _ rfl)
    have d2_1 : ((w.alloc (.cells (intCells [4, 6, 6, 6]).toArray 3)).drew).cell? ⟨r, 9, none⟩ = some (.int .u64 n2) := (World.cell?_alloc_lt w _ ⟨r, 9, none⟩ hr).trans (hc 9 _ rfl)
    have d3_1 : ((w.alloc (.cells (intCells [4, 6, 6, 6]).toArray 3)).drew).cell? ⟨r, 13, none⟩ = some (.int .u64 n3) := (World.cell?_alloc_lt w _ ⟨r, 13, none⟩ hr).trans (hc 13 _ rfl)
    have hbel : Below w.heap.size w ((w.alloc (.cells (intCells [4, 6, 6, 6]).toArray 3)).drew) := ((Below.refl _ _).alloc (Nat.le_refl _) _).drew
    refine region_still_tail 20 (by kernel_rfl) (by kernel_rfl) ?_
    simp only [List.take_succ_cons, List.take_zero, List.drop_succ_cons, List.drop_zero]
    generalize (w.alloc (.cells (intCells [4, 6, 6, 6]).toArray 3)).drew = wX at d0_2 d1_1 d2_1 d3_1 hbel ⊢
    refine st_op E (op_move (E.get rfl)) (by decide) rfl (fun a E => ?_)
    refine st_op E (op_index 0 (E.get rfl) (by omega)) (by decide) rfl (fun a E => ?_)
    refine st_op E (op_field 2 (by omega) (E.get rfl)) (by decide) rfl (fun a E => ?_)
    refine st_op E (op_load 9 (by simp) (E.get rfl) d0_2) (by decide) rfl (fun a E => ?_)
    refine st_op E (op_move (E.get rfl)) (by decide) rfl (fun a E => ?_)
    refine st_op E (op_index 1 (E.get rfl) (by omega)) (by decide) rfl (fun a E => ?_)
    refine st_op E (op_field 1 (by omega) (E.get rfl)) (by decide) rfl (fun a E => ?_)
    refine st_op E (op_load 38 (by simp) (E.get rfl) d1_1) (by decide) rfl (fun a E => ?_)
    refine st_op E (op_ne (n := n1) (E.get rfl)) (by decide) rfl (fun a E => ?_)
    refine st_op E (op_move (E.get rfl)) (by decide) rfl (fun a E => ?_)
    refine st_op E (op_index 2 (E.get rfl) (by omega)) (by decide) rfl (fun a E => ?_)
    refine st_op E (op_field 1 (by omega) (E.get rfl)) (by decide) rfl (fun a E => ?_)
    refine st_op E (op_load 38 (by simp) (E.get rfl) d2_1) (by decide) rfl (fun a E => ?_)
    refine st_op E (op_ne (n := n2) (E.get rfl)) (by decide) rfl (fun a E => ?_)
    refine st_op E (op_move (E.get rfl)) (by decide) rfl (fun a E => ?_)
    refine st_op E (op_index 3 (E.get rfl) (by omega)) (by decide) rfl (fun a E => ?_)
    refine st_op E (op_field 1 (by omega) (E.get rfl)) (by decide) rfl (fun a E => ?_)
    refine st_op E (op_load 38 (by simp) (E.get rfl) d3_1) (by decide) rfl (fun a E => ?_)
    refine st_op E (op_ne (n := n3) (E.get rfl)) (by decide) rfl (fun a E => ?_)
    have e598 := E.get (i := 598) rfl
    have e603 := E.get (i := 603) rfl
    have e608 := E.get (i := 608) rfl
    have e613 := E.get (i := 613) rfl
    refine st_op E (op_build 197 #[(1, .string t0), (2, .bool ((n1 : Int) != 0)), (3, .bool ((n2 : Int) != 0)), (4, .bool ((n3 : Int) != 0))] (by simp [e598, e603, e608, e613]) (cells := (.int .u16 0 :: .string t0 :: .bool ((n1 : Int) != 0) :: .bool ((n2 : Int) != 0) :: .bool ((n3 : Int) != 0) :: []).toArray) (by kernel_rfl)) (by decide) rfl (fun a E => ?_)
    refine wpStill_nil ?_
    change wpList _ _ _ _ _ _
    refine lt_op E (op_box 197 (E.get rfl) (by go_simp)) (by decide) rfl (fun a E => ?_)
    refine lt_op E (op_iface 195 (E.get rfl) (by kernel_rfl)) (by decide) rfl (fun a E => ?_)
    refine lt_op E (op_assign (E.get rfl)) (by decide) rfl (fun a E => ?_)
    refine lt_op E (op_assign rfl) (by decide) rfl (fun a E => ?_)
    exact wp_ret (hQ _ _ (ret_ok E rfl rfl ⟨wX.heap.size, rfl, hbel.size, Blk.new wX 197 _, hbel.alloc hbel.size _⟩))

set_option maxRecDepth 100000 in
/-- ZZMethod: *queueDeleteOk -/
theorem zz_queueDeleteOk {w : World} {r c : Nat} (n0 : Nat) (t0 : ByteArray) (b0 : Nat) (h0 : n0 < 4294967296) (hr : r < w.heap.size)
    (hc : ∀ j u, ([Value.int .i64 2, .int .u64 n0, .string t0, .map (some b0)] : List Value)[j]? = some u → w.cell? ⟨r, j, none⟩ = some u) :
    Calls Tryz.prog 18 #[.int .u16 50, .int .u16 41, .slice (some ⟨r, 0, none⟩) 1 c] w (ZzPost w 198 199 (.int .u32 n0 :: []).toArray) := by
  refine zz_prefix (kinds := [2]) (r := r) rfl (ZZKinds_37 w) (fun i hi => ⟨rfl, hr, ?_⟩) (by omega) (fun Q hQ a E => ?_)
  · have hx : i = 0 := by omega
    rcases hx with rfl
    all_goals exact hc _ _ rfl
  · refine sw_to 37 (by decide) rfl (by decide +kernel) (fun a E => ?_) a E
    refine wp_seq ?_
    have d0_1 : ((w.alloc (.cells (intCells [2]).toArray 3))).cell? ⟨r, 1, none⟩ = some (.int .u64 n0) := (World.cell?_alloc_lt w _ ⟨r, 1, none⟩ hr).trans (hc 1 _ rfl)
    have hbel : Below w.heap.size w ((w.alloc (.cells (intCells [2]).toArray 3))) := ((Below.refl _ _).alloc (Nat.le_refl _) _)
    refine wp_region_list ?_
    generalize (w.alloc (.cells (intCells [2]).toArray 3)) = wX at d0_1 hbel ⊢
    refine lt_op E (op_move (E.get rfl)) (by decide) rfl (fun a E => ?_)
    refine lt_op E (op_index 0 (E.get rfl) (by omega)) (by decide) rfl (fun a E => ?_)
    refine lt_op E (op_field 1 (by omega) (E.get rfl)) (by decide) rfl (fun a E => ?_)
    refine lt_op E (op_load 38 (by simp) (E.get rfl) d0_1) (by decide) rfl (fun a E => ?_)
    refine lt_op E (op_conv 114 .u32 4294967296 n0 (by simp) (E.get rfl) h0) (by decide) rfl (fun a E => ?_)
    have e624 := E.get (i := 624) rfl
    refine lt_op E (op_build 199 #[(0, .int .u32 n0)] (by simp [e624]) (cells := (.int .u32 n0 :: []).toArray) (by kernel_rfl)) (by decide) rfl (fun a E => ?_)
    refine lt_op E (op_box 199 (E.get rfl) (by go_simp)) (by decide) rfl (fun a E => ?_)
    refine lt_op E (op_iface 198 (E.get rfl) (by kernel_rfl)) (by decide) rfl (fun a E => ?_)
    refine lt_op E (op_assign (E.get rfl)) (by decide) rfl (fun a E => ?_)
    refine lt_op E (op_assign rfl) (by decide) rfl (fun a E => ?_)
    exact wp_ret (hQ _ _ (ret_ok E rfl rfl ⟨wX.heap.size, rfl, hbel.size, Blk.new wX 199 _, hbel.alloc hbel.size _⟩))

set_option maxRecDepth 100000 in
/-- ZZMethod: *basicQos -/
theorem zz_basicQos {w : World} {r c : Nat} (n0 n1 n2 : Nat) (t0 t1 t2 : ByteArray) (b0 b1 b2 : Nat) (h0 : n0 < 4294967296) (h1 : n1 < 65536) (hr : r < w.heap.size)
    (hc : ∀ j u, ([Value.int .i64 2, .int .u64 n0, .string t0, .map (some b0), .int .i64 1, .int .u64 n1, .string t1, .map (some b1), .int .i64 6, .int .u64 n2, .string t2, .map (some b2)] : List Value)[j]? = some u → w.cell? ⟨r, j, none⟩ = some u) :
    Calls Tryz.prog 18 #[.int .u16 60, .int .u16 10, .slice (some ⟨r, 0, none⟩) 3 c] w (ZzPost w 200 202 (.int .u32 n0 :: .int .u16 n1 :: .bool ((n2 : Int) != 0) :: []).toArray) := by
  refine zz_prefix (kinds := [2, 1, 6]) (r := r) rfl (ZZKinds_38 w) (fun i hi => ⟨rfl, hr, ?_⟩) (by omega) (fun Q hQ a E => ?_)
  · have hx : i = 0 ∨ i = 1 ∨ i = 2 := by omega
    rcases hx with rfl | rfl | rfl
    all_goals exact hc _ _ rfl
  · refine sw_to 38 (by decide) rfl (by decide +kernel) (fun a E => ?_) a E
    refine wp_seq ?_
    have d0_1 : ((w.alloc (.cells (intCells [2, 1, 6]).toArray 3)).drew).cell? ⟨r, 1, none⟩ = some (.int .u64 n0) := (World.cell?_alloc_lt w _ ⟨r, 1, none⟩ hr).trans (hc 1 _ rfl)
    have d1_1 : ((w.alloc (.cells (intCells [2, 1, 6]).toArray 3)).drew).cell? ⟨r, 5, none⟩ = some (.int .u64 n1) := (World.cell?_alloc_lt w _ ⟨r, 5, none⟩ hr).trans (hc 5 _ rfl)
    have d2_1 : ((w.alloc (.cells (intCells [2, 1, 6]).toArray 3)).drew).cell? ⟨r, 9, none⟩ = some (.int .u64 n2) := (World.cell?_alloc_lt w _ ⟨r, 9, none⟩ hr).trans (hc 9 _ rfl)
    have hbel : Below w.heap.size w ((w.alloc (.cells (intCells [2, 1, 6]).toArray 3)).drew) := ((Below.refl _ _).alloc (Nat.le_refl _) _).drew
    refine region_still_tail 16 (by kernel_rfl) (by kernel_rfl) ?_
    simp only [List.take_succ_cons, List.take_zero, List.drop_succ_cons, List.drop_zero]
    generalize (w.alloc (.cells (intCells [2, 1, 6]).toArray 3)).drew = wX at d0_1 d1_1 d2_1 hbel ⊢
    refine st_op E (op_move (E.get rfl)) (by decide) rfl (fun a E => ?_)
    refine st_op E (op_index 0 (E.get rfl) (by omega)) (by decide) rfl (fun a E => ?_)
    refine st_op E (op_field 1 (by omega) (E.get rfl)) (by decide) rfl (fun a E => ?_)
    refine st_op E (op_load 38 (by simp) (E.get rfl) d0_1) (by decide) rfl (fun a E => ?_)
    refine st_op E (op_conv 114 .u32 4294967296 n0 (by simp) (E.get rfl) h0) (by decide) rfl (fun a E => ?_)
    refine st_op E (op_move (E.get rfl)) (by decide) rfl (fun a E => ?_)
    refine st_op E (op_index 1 (E.get rfl) (by omega)) (by decide) rfl (fun a E => ?_)
    refine st_op E (op_field 1 (by omega) (E.get rfl)) (by decide) rfl (fun a E => ?_)
    refine st_op E (op_load 38 (by simp) (E.get rfl) d1_1) (by decide) rfl (fun a E => ?_)
    refine st_op E (op_conv 51 .u16 65536 n1 (by simp) (E.get rfl) h1) (by decide) rfl (fun a E => ?_)
    refine st_op E (op_move (E.get rfl)) (by decide) rfl (fun a E => ?_)
    refine st_op E (op_index 2 (E.get rfl) (by omega)) (by decide) rfl (fun a E => ?_)
    refine st_op E (op_field 1 (by omega) (E.get rfl)) (by decide) rfl (fun a E => ?_)
    refine st_op E (op_load 38 (by simp) (E.get rfl) d2_1) (by decide) rfl (fun a E => ?_)
    refine st_op E (op_ne (n := n2) (E.get rfl)) (by decide) rfl (fun a E => ?_)
    have e635 := E.get (i := 635) rfl
    have e640 := E.get (i := 640) rfl
    have e645 := E.get (i := 645) rfl
    refine st_op E (op_build 202 #[(0, .int .u32 n0), (1, .int .u16 n1), (2, .bool ((n2 : Int) != 0))] (by simp [e635, e640, e645]) (cells := (.int .u32 n0 :: .int .u16 n1 :: .bool ((n2 : Int) != 0) :: []).toArray) (by kernel_rfl)) (by decide) rfl (fun a E => ?_)
    refine wpStill_nil ?_
    change wpList _ _ _ _ _ _
    refine lt_op E (op_box 202 (E.get rfl) (by go_simp)) (by decide) rfl (fun a E => ?_)
    refine lt_op E (op_iface 200 (E.get rfl) (by kernel_rfl)) (by decide) rfl (fun a E => ?_)
    refine lt_op E (op_assign (E.get rfl)) (by decide) rfl (fun a E => ?_)
    refine lt_op E (op_assign rfl) (by decide) rfl (fun a E => ?_)
    exact wp_ret (hQ _ _ (ret_ok E rfl rfl ⟨wX.heap.size, rfl, hbel.size, Blk.new wX 202 _, hbel.alloc hbel.size _⟩))

set_option maxRecDepth 100000 in
/-- ZZMethod: *basicQosOk -/
theorem zz_basicQosOk {w : World} (A : Option Addr) (c : Nat) :
    Calls Tryz.prog 18 #[.int .u16 60, .int .u16 11, .slice A 0 c] w (ZzPost w 203 204 ([]).toArray) := by
  refine zz_prefix (kinds := []) (r := 0) rfl (ZZKinds_39 w) (fun i hi => absurd hi (by omega)) (by omega) (fun Q hQ a E => ?_)
  refine sw_to 39 (by decide) rfl (by decide +kernel) (fun a E => ?_) a E
  refine wp_seq ?_
  have hbel : Below w.heap.size w ((w.alloc (.cells (intCells []).toArray 3))) := ((Below.refl _ _).alloc (Nat.le_refl _) _)
  refine wp_region_list ?_
  generalize (w.alloc (.cells (intCells []).toArray 3)) = wX at hbel ⊢
  refine lt_op E (op_build 204 #[] (by simp) (cells := ([]).toArray) (by kernel_rfl)) (by decide) rfl (fun a E => ?_)
  refine lt_op E (op_box 204 (E.get rfl) (by go_simp)) (by decide) rfl (fun a E => ?_)
  refine lt_op E (op_iface 203 (E.get rfl) (by kernel_rfl)) (by decide) rfl (fun a E => ?_)
  refine lt_op E (op_assign (E.get rfl)) (by decide) rfl (fun a E => ?_)
  refine lt_op E (op_assign rfl) (by decide) rfl (fun a E => ?_)
  exact wp_ret (hQ _ _ (ret_ok E rfl rfl ⟨wX.heap.size, rfl, hbel.size, Blk.new wX 204 _, hbel.alloc hbel.size _⟩))

set_option maxRecDepth 100000 in
/-- ZZMethod: *basicConsume -/
theorem zz_basicConsume {w : World} {r c : Nat} (n0 n1 n2 n3 n4 n5 n6 : Nat) (t0 t1 t2 t3 t4 t5 t6 : ByteArray) (b0 b1 b2 b3 b4 b5 b6 : Nat)  (hr : r < w.heap.size)
    (hc : ∀ j u, ([Value.int .i64 4, .int .u64 n0, .string t0, .map (some b0), .int .i64 4, .int .u64 n1, .string t1, .map (some b1), .int .i64 6, .int .u64 n2, .string t2, .map (some b2), .int .i64 6, .int .u64 n3, .string t3, .map (some b3), .int .i64 6, .int .u64 n4, .string t4, .map (some b4), .int .i64 6, .int .u64 n5, .string t5, .map (some b5), .int .i64 7, .int .u64 n6, .string t6, .map (some b6)] : List Value)[j]? = some u → w.cell? ⟨r, j, none⟩ = some u) :
    Calls Tryz.prog 18 #[.int .u16 60, .int .u16 20, .slice (some ⟨r, 0, none⟩) 7 c] w (ZzPost w 205 207 (.int .u16 0 :: .string t0 :: .string t1 :: .bool ((n2 : Int) != 0) :: .bool ((n3 : Int) != 0) :: .bool ((n4 : Int) != 0) :: .bool ((n5 : Int) != 0) :: .map (some b6) :: []).toArray) := by
  refine zz_prefix (kinds := [4, 4, 6, 6, 6, 6, 7]) (r := r) rfl (ZZKinds_40 w) (fun i hi => ⟨rfl, hr, ?_⟩) (by omega) (fun Q hQ a E => ?_)
  · have hx : i = 0 ∨ i = 1 ∨ i = 2 ∨ i = 3 ∨ i = 4 ∨ i = 5 ∨ i = 6 := by omega
    rcases hx with rfl | rfl | rfl | rfl | rfl | rfl | rfl
    all_goals exact hc _ _ rfl
  · refine sw_to 40 (by decide) rfl (by decide +kernel) (fun a E => ?_) a E
    refine wp_seq ?_
    have d0_2 : ((w.alloc (.cells (intCells [4, 4, 6, 6, 6, 6, 7]).toArray 3)).drew).cell? ⟨r, 2, none⟩ = some (.string t0) := (World.cell?_alloc_lt w _ ⟨r, 2, none⟩ hr).trans (hc 2 _ rfl)
    have d1_2 : ((w.alloc (.cells (intCells [4, 4, 6, 6, 6, 6, 7]).toArray 3)).drew).cell? ⟨r, 6, none⟩ = some (.string t1) := (World.cell?_alloc_lt w _ ⟨r, 6, none⟩ hr).trans (hc 6 _ rfl)
    have d2_1 : ((w.alloc (.cells (intCells [4, 4, 6, 6, 6, 6, 7]).toArray 3)).drew).cell? ⟨r, 9, none⟩ = some (.int .u64 n2) := (World.cell?_alloc_lt w _ ⟨r, 9, none⟩ hr).trans (hc 9 _ rfl)
    have d3_1 : ((w.alloc (.cells (intCells [4, 4, 6, 6, 6, 6, 7]).toArray 3)).drew).cell? ⟨r, 13, none⟩ = some (.int .u64 n3) := (World.cell?_alloc_lt w _ ⟨r, 13, none⟩ hr).trans (hc 13 _ rfl)
    have d4_1 : ((w.alloc (.cells (intCells [4, 4, 6, 6, 6, 6, 7]).toArray 3)).drew).cell? ⟨r, 17, none⟩ = some (.int .u64 n4) := (World.cell?_alloc_lt w _ ⟨r, 17, none⟩ hr).trans (hc 17 _ rfl)
    have d5_1 : ((w.alloc (.cells (intCells [4, 4, 6, 6, 6, 6, 7]).toArray 3)).drew).cell? ⟨r, 21, none⟩ = some (.int .u64 n5) := (World.cell?_alloc_lt w _ ⟨r, 21, none⟩ hr).trans (hc 21 _ rfl)
    have d6_3 : ((w.alloc (.cells (intCells [4, 4, 6, 6, 6, 6, 7]).toArray 3)).drew).cell? ⟨r, 27, none⟩ = some (.map (some b6)) := (World.cell?_alloc_lt w _ ⟨r, 27, none⟩ hr).trans (hc 27 _ rfl)
    have hbel : Below w.heap.size w ((w.alloc (.cells (intCells [4, 4, 6, 6, 6, 6, 7]).toArray 3)).drew) := ((Below.refl _ _).alloc (Nat.le_refl _) _).drew
    refine region_still_tail 33 (by kernel_rfl) (by kernel_rfl) ?_
    simp only [List.take_succ_cons, List.take_zero, List.drop_succ_cons, List.drop_zero]
    generalize (w.alloc (.cells (intCells [4, 4, 6, 6, 6, 6, 7]).toArray 3)).drew = wX at d0_2 d1_2 d2_1 d3_1 d4_1 d5_1 d6_3 hbel ⊢
    refine st_op E (op_move (E.get rfl)) (by decide) rfl (fun a E => ?_)
    refine st_op E (op_index 0 (E.get rfl) (by omega)) (by decide) rfl (fun a E => ?_)
    refine st_op E (op_field 2 (by omega) (E.get rfl)) (by decide) rfl (fun a E => ?_)
    refine st_op E (op_load 9 (by simp) (E.get rfl) d0_2) (by decide) rfl (fun a E => ?_)
    refine st_op E (op_move (E.get rfl)) (by decide) rfl (fun a E => ?_)
    refine st_op E (op_index 1 (E.get rfl) (by omega)) (by decide) rfl (fun a E => ?_)
    refine st_op E (op_field 2 (by omega) (E.get rfl)) (by decide) rfl (fun a E => ?_)
    refine st_op E (op_load 9 (by simp) (E.get rfl) d1_2) (by decide) rfl (fun a E => ?_)
    refine st_op E (op_move (E.get rfl)) (by decide) rfl (fun a E => ?_)
    refine st_op E (op_index 2 (E.get rfl) (by omega)) (by decide) rfl (fun a E => ?_)
    refine st_op E (op_field 1 (by omega) (E.get rfl)) (by decide) rfl (fun a E => ?_)
    refine st_op E (op_load 38 (by simp) (E.get rfl) d2_1) (by decide) rfl (fun a E => ?_)
    refine st_op E (op_ne (n := n2) (E.get rfl)) (by decide) rfl (fun a E => ?_)
    refine st_op E (op_move (E.get rfl)) (by decide) rfl (fun a E => ?_)
    refine st_op E (op_index 3 (E.get rfl) (by omega)) (by decide) rfl (fun a E => ?_)
    refine st_op E (op_field 1 (by omega) (E.get rfl)) (by decide) rfl (fun a E => ?_)
    refine st_op E (op_load 38 (by simp) (E.get rfl) d3_1) (by decide) rfl (fun a E => ?_)
    refine st_op E (op_ne (n := n3) (E.get rfl)) (by decide) rfl (fun a E => ?_)
    refine st_op E (op_move (E.get rfl)) (by decide) rfl (fun a E => ?_)
    refine st_op E (op_index 4 (E.get rfl) (by omega)) (by decide) rfl (fun a E => ?_)
    refine st_op E (op_field 1 (by omega) (E.get rfl)) (by decide) rfl (fun a E => ?_)
    refine st_op E (op_load 38 (by simp) (E.get rfl) d4_1) (by decide) rfl (fun a E => ?_)
    refine st_op E (op_ne (n := n4) (E.get rfl)) (by decide) rfl (fun a E => ?_)
    refine st_op E (op_move (E.get rfl)) (by decide) rfl (fun a E => ?_)
    refine st_op E (op_index 5 (E.get rfl) (by omega)) (by decide) rfl (fun a E => ?_)
    refine st_op E (op_field 1 (by omega) (E.get rfl)) (by decide) rfl (fun a E => ?_)
    refine st_op E (op_load 38 (by simp) (E.get rfl) d5_1) (by decide) rfl (fun a E => ?_)
    refine st_op E (op_ne (n := n5) (E.get rfl)) (by decide) rfl (fun a E => ?_)
    refine st_op E (op_move (E.get rfl)) (by decide) rfl (fun a E => ?_)
    refine st_op E (op_index 6 (E.get rfl) (by omega)) (by decide) rfl (fun a E => ?_)
    refine st_op E (op_field 3 (by omega) (E.get rfl)) (by decide) rfl (fun a E => ?_)
    refine st_op E (op_load 56 (by simp) (E.get rfl) d6_3) (by decide) rfl (fun a E => ?_)
    have e661 := E.get (i := 661) rfl
    have e665 := E.get (i := 665) rfl
    have e670 := E.get (i := 670) rfl
    have e675 := E.get (i := 675) rfl
    have e680 := E.get (i := 680) rfl
    have e685 := E.get (i := 685) rfl
    have e689 := E.get (i := 689) rfl
    refine st_op E (op_build 207 #[(1, .string t0), (2, .string t1), (3, .bool ((n2 : Int) != 0)), (4, .bool ((n3 : Int) != 0)), (5, .bool ((n4 : Int) != 0)), (6, .bool ((n5 : Int) != 0)), (7, .map (some b6))] (by simp [e661, e665, e670, e675, e680, e685, e689]) (cells := (.int .u16 0 :: .string t0 :: .string t1 :: .bool ((n2 : Int) != 0) :: .bool ((n3 : Int) != 0) :: .bool ((n4 : Int) != 0) :: .bool ((n5 : Int) != 0) :: .map (some b6) :: []).toArray) (by kernel_rfl)) (by decide) rfl (fun a E => ?_)
    refine wpStill_nil ?_
    change wpList _ _ _ _ _ _
    refine lt_op E (op_box 207 (E.get rfl) (by go_simp)) (by decide) rfl (fun a E => ?_)
    refine lt_op E (op_iface 205 (E.get rfl) (by kernel_rfl)) (by decide) rfl (fun a E => ?_)
    refine lt_op E (op_assign (E.get rfl)) (by decide) rfl (fun a E => ?_)
    refine lt_op E (op_assign rfl) (by decide) rfl (fun a E => ?_)
    exact wp_ret (hQ _ _ (ret_ok E rfl rfl ⟨wX.heap.size, rfl, hbel.size, Blk.new wX 207 _, hbel.alloc hbel.size _⟩))

set_option maxRecDepth 100000 in
/-- ZZMethod: *basicConsumeOk -/
theorem zz_basicConsumeOk {w : World} {r c : Nat} (n0 : Nat) (t0 : ByteArray) (b0 : Nat)  (hr : r < w.heap.size)
    (hc : ∀ j u, ([Value.int .i64 4, .int .u64 n0, .string t0, .map (some b0)] : List Value)[j]? = some u → w.cell? ⟨r, j, none⟩ = some u) :
    Calls Tryz.prog 18 #[.int .u16 60, .int .u16 21, .slice (some ⟨r, 0, none⟩) 1 c] w (ZzPost w 208 210 (.string t0 :: []).toArray) := by
  refine zz_prefix (kinds := [4]) (r := r) rfl (ZZKinds_41 w) (fun i hi => ⟨rfl, hr, ?_⟩) (by omega) (fun Q hQ a E => ?_)
  · have hx : i = 0 := by omega
    rcases hx with rfl
    all_goals exact hc _ _ rfl
  · refine sw_to 41 (by decide) rfl (by decide +kernel) (fun a E => ?_) a E
    refine wp_seq ?_
    have d0_2 : ((w.alloc (.cells (intCells [4]).toArray 3))).cell? ⟨r, 2, none⟩ = some (.string t0) := (World.cell?_alloc_lt w _ ⟨r, 2, none⟩ hr).trans (hc 2 _ rfl)
    have hbel : Below w.heap.size w ((w.alloc (.cells (intCells [4]).toArray 3))) := ((Below.refl _ _).alloc (Nat.le_refl _) _)
    refine wp_region_list ?_
    generalize (w.alloc (.cells (intCells [4]).toArray 3)) = wX at d0_2 hbel ⊢
    refine lt_op E (op_move (E.get rfl)) (by decide) rfl (fun a E => ?_)
    refine lt_op E (op_index 0 (E.get rfl) (by omega)) (by decide) rfl (fun a E => ?_)
    refine lt_op E (op_field 2 (by omega) (E.get rfl)) (by decide) rfl (fun a E => ?_)
    refine lt_op E (op_load 9 (by simp) (E.get rfl) d0_2) (by decide) rfl (fun a E => ?_)
    have e699 := E.get (i := 699) rfl
    refine lt_op E (op_build 210 #[(0, .string t0)] (by simp [e699]) (cells := (.string t0 :: []).toArray) (by kernel_rfl)) (by decide) rfl (fun a E => ?_)
    refine lt_op E (op_box 210 (E.get rfl) (by go_simp)) (by decide) rfl (fun a E => ?_)
    refine lt_op E (op_iface 208 (E.get rfl) (by kernel_rfl)) (by decide) rfl (fun a E => ?_)
    refine lt_op E (op_assign (E.get rfl)) (by decide) rfl (fun a E => ?_)
    refine lt_op E (op_assign rfl) (by decide) rfl (fun a E => ?_)
    exact wp_ret (hQ _ _ (ret_ok E rfl rfl ⟨wX.heap.size, rfl, hbel.size, Blk.new wX 210 _, hbel.alloc hbel.size _⟩))

end Go.Proofs.YtabeppaehenefaaGreat
