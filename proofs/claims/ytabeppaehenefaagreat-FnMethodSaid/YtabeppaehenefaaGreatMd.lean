/-
  FnMethod: spec.FrameBytes.
-/
import Derived.Test.YtabeppaehenefaaGreatS1
namespace Go.Proofs.YtabeppaehenefaaGreat
open Go.RowKit
attribute [local go_sem ↓] Go.wp_at_zero Go.wp_at_succ

/-- a frame's bytes -/
def frameB (kind ch : Nat) (xs : List UInt8) : List UInt8 := be kind 1 ++ be ch 2 ++ be xs.length 4 ++ xs ++ [206]

set_option maxRecDepth 100000 in
set_option maxHeartbeats 2000000 in
theorem FrameBytes_any (kind ch : Nat) (v : Value) (xs : List UInt8) (w : World) (hk : kind ≤ 255) (hch : ch ≤ 65535) (hv : Rb w w.heap.size v xs) (hx : xs.length ≤ 500000) :
    Calls Tryz.prog 9 #[.int .i64 kind, .int .i64 ch, v] w fun e w' => ∃ sv, e = .returned sv ∧ Own w' w.heap.size sv (frameB kind ch xs) ∧ Below w.heap.size w w' := by
  obtain ⟨i0, hi, hz0, hz1, hz2⟩ := info_parts info5
  have hbi := Buf.new2 w
  have hbel : Below w.heap.size w ((w.alloc (.cells #[] 5)).alloc (.cells #[.slice (some ⟨w.heap.size, 0, none⟩) 0 0] 70)) := ((Below.refl _ _).alloc (Nat.le_refl _) _).alloc (by simp) _
  have hc1 := put_n (kind : Int) 1 hbi hbel.size (by omega) (by omega) (by omega) (by simp)
  have HC1 := Lib.hid hc1
  have HV := Lib.hid hv
  have HB := Lib.hid hbel
  have hv' := hv
  obtain ⟨A, c, rfl, hcc, _⟩ := hv'
  clear hc1 hv hbel hbi
  go_enter Tryz.func9, Tryz.ntmps9
  go_wp2_with fail
  refine HC1.out.mono ?_
  rintro e w1 ⟨rfl, sv1, hb1, hw1⟩
  have HB1 := Lib.hid (HB.out.trans (hw1.below (B := w.heap.size) (by omega) (by simp [Value.ownBlock]) HB.out.size))
  clear hw1
  have hc2 := put_n (ch : Int) 2 hb1 HB1.out.size (by omega) (by omega) (by omega) (by simp [be_len])
  have HC2 := Lib.hid hc2
  have hr1 := hb1.row_lt
  clear hc2 hb1
  go_wp2_with fail
  refine HC2.out.mono ?_
  rintro e w2 ⟨rfl, sv2, hb2, hw2⟩
  have HB2 := Lib.hid (HB1.out.trans (hw2.below (B := w.heap.size) (by omega) (fun g hg => (hr1 g hg).1) HB1.out.size))
  clear hw2 hr1
  have hc3 := put_n (xs.length : Int) 4 hb2 HB2.out.size (by omega) (by omega) (by omega) (by simp [be_len])
  have HC3 := Lib.hid hc3
  have hr2 := hb2.row_lt
  clear hc3 hb2
  go_wp2_with fail
  refine HC3.out.mono ?_
  rintro e w3 ⟨rfl, sv3, hb3, hw3⟩
  have HB3 := Lib.hid (HB2.out.trans (hw3.below (B := w.heap.size) (by omega) (fun g hg => (hr2 g hg).1) HB2.out.size))
  clear hw3 hr2
  have hcell := hb3.cell
  have hsrc := (Rb.keep HV.out (w' := w3) (fun q hq => World.cell?_of_block (HB3.out.block _ hq))).src Tryz.underlying32
  obtain ⟨A3, c3, rfl⟩ := hb3.shape
  have hl3 : (([] ++ be (kind : Int).toNat 1 ++ be (ch : Int).toNat 2) ++ be (xs.length : Int).toNat 4).length = 7 := by simp [be_len]
  have hown3 := hb3.own
  have hr3 := hb3.row_lt
  rw [hl3] at hcell hown3 hr3
  clear hb3
  go_wp2_with (at_builtin; refine wpList_append_src _ rfl (.tmp 25) (.tmp 26) 70 32 rfl w.heap.size 5 i0 (.int .u8 0) 1 1 Tryz.underlying70 hi hz0 hz1 hz2 rfl _ 7 _ rfl hown3 _ xs.length (bcells xs) rfl hsrc (by unfold maxLen; omega) (by omega) HB3.out.size ?_)
  intro sv4 w4 hown4 hg4 hat4
  obtain ⟨A4, c4, rfl⟩ := own_shape hown4
  have HB4 := Lib.hid (HB3.out.grown hg4 HB3.out.size (fun g hg => (hr3 g hg).1))
  have hr4 := hown4.lt
  clear hown3 hsrc hcell hr3 hat4 hg4
  go_wp2_with (at_builtin; refine wpList_append_src _ rfl (.tmp 27) (.tmp 28) 70 70 rfl w.heap.size 5 i0 (.int .u8 0) 1 1 Tryz.underlying70 hi hz0 hz1 hz2 rfl _ (7 + xs.length) _ rfl (hown4.alloc _) _ 1 (bcells [206]) rfl (src61 w4 206) (by unfold maxLen; omega) (by omega) (by have := HB4.out.size; simp; omega) ?_)
  intro sv5 w5 hown5 hg5 hat5
  obtain ⟨A5, c5, rfl⟩ := own_shape hown5
  have HB5 := Lib.hid ((HB4.out.alloc HB4.out.size _).grown hg5 (by have := HB4.out.size; simp; omega) (fun g hg => (hr4 g hg).1))
  clear hown4 hg5 hat5 hr4
  go_wp2
  go_ret
  refine ⟨_, rfl, ?_, HB5.out⟩
  have hlf : (frameB kind ch xs).length = 7 + xs.length + 1 := by simp [frameB, be_len]; omega
  unfold Own
  rw [hlf]
  simpa [frameB, bcells] using hown5

end Go.Proofs.YtabeppaehenefaaGreat
