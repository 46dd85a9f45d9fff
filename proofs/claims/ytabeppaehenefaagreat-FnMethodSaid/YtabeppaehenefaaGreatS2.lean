/-
  The specification's own writer: a value, given tables and values of less height.
  The specification's own writer: floating point values.
  The specification's own writer: arrays and tables as values.
  The specification's own writer: all values and tables, given the letter f.
-/
import Derived.Test.YtabeppaehenefaaGreatS1
namespace Go.Proofs.YtabeppaehenefaaGreat
open Go.RowKit

theorem wrapu (m : Int) : IntKind.u64.wrap m = m % 18446744073709551616 := by simp [IntKind.wrap, IntKind.bits, IntKind.signed]
theorem wrapu_nat (m : Int) : (IntKind.u64.wrap m).toNat = u64 m := by rw [wrapu]; rfl

/-- what is left of a value's walk behind its letter -/
def Rest (n : Nat) (k : Int) : Prop := ∀ (m : Int) (f : Nat) (s : Int) (t : ByteArray) (ks : Vs) (fs : Fs) (a1 : Option Addr) (c1 : Nat) (a2 : Option Addr) (c2 : Nat) (zs ys : List Value) (p : Nat → Prop) (B bb : Nat) (sv : Value) (xs : List UInt8) (w : World),
  (V.mk k m f s t ks fs).ht ≤ n → (V.mk k m f s t ks fs).good → (V.mk k m f s t ks fs).ok → Rd w p a1 zs → VsC w p ks zs → ks.len ≤ c1 → Rd w p a2 ys → FsC w p fs ys → fs.len ≤ c2 →
  Buf w B 70 bb sv xs → B ≤ w.heap.size → (∀ g, p g → g < w.heap.size ∧ g ≠ bb ∧ some g ≠ sv.ownBlock) → (V.mk k m f s t ks fs).enc.length ≤ 30000 → xs.length + (V.mk k m f s t ks fs).enc.length ≤ 200000 →
  Calls Tryz.prog 33 #[.pointer (some ⟨bb, 0, none⟩), .agg (vcells k m f s t a1 ks.len c1 a2 fs.len c2).toArray] w (Wrote w B bb sv xs (V.mk k m f s t ks fs).enc)

set_option maxRecDepth 100000 in
set_option maxHeartbeats 8000000 in
theorem sv_116 (n : Nat) : Rest n 116 := by
  intro m f s t ks fs a1 c1 a2 c2 zs ys p B bb sv xs w hht hgood hok hR1 hV hc1 hR2 hF hc2 hb hB hp henc hxs
  rw [V.ok] at hok
  obtain ⟨_, ok2, ok3, ok4, ok5, _, _, ok8, ok9⟩ := hok
  have Hok2 := Lib.hid ok2
  have Hok4 := Lib.hid ok4
  have HG := Lib.hid hgood
  clear hR1 hV hR2 hF hp hht ok2 ok4 hgood
  have hbx := hb.alloc (.cells (vcells 116 m f s t a1 ks.len c1 a2 fs.len c2).toArray 273)
  have hX := Blk.new w 273 (vcells 116 m f s t a1 ks.len c1 a2 fs.len c2).toArray
  have hXb : ¬ (w.heap.size = bb) := by have := hb.lt; omega
  have hXr : some w.heap.size ≠ sv.ownBlock := fun e => by have := (hb.row_lt _ e.symm).2; omega
  have hW0 : Wr w (w.alloc (.cells (vcells 116 m f s t a1 ks.len c1 a2 fs.len c2).toArray 273)) bb sv.ownBlock sv.ownBlock := (Wr.refl _ _ _).alloc _
  have hsz0 : (w.alloc (.cells (vcells 116 m f s t a1 ks.len c1 a2 fs.len c2).toArray 273)).heap.size = w.heap.size + 1 := by simp
  go_enter Tryz.func33, Tryz.ntmps33
  go_wp2_with fail
  generalize w.alloc (.cells (vcells 116 m f s t a1 ks.len c1 a2 fs.len c2).toArray 273) = w0 at hbx hX hW0 hsz0 ⊢
  refine (put_n 116 1 hbx (by omega) (by omega) (by omega) (by omega) (by omega)).mono ?_
  rintro e w1 ⟨rfl, sv1, hb1, hw1⟩
  have hX1 := hw1.blk hX hXb hXr
  have hW1 := hW0.trans hw1
  have hsz1 := hW1.size
  have hl1 : (xs ++ be (Int.toNat 116) 1).length = xs.length + 1 := by rw [List.length_append, be_len]
  have x0 : w1.cell? ⟨w.heap.size, 0, none⟩ = some (.int .u8 116) := by rw [hX1.cell]; rfl
  have x1 : w1.cell? ⟨w.heap.size, 1, none⟩ = some (.int .i64 m) := by rw [hX1.cell]; rfl
  have x2 : w1.cell? ⟨w.heap.size, 2, none⟩ = some (.float .f64 f) := by rw [hX1.cell]; rfl
  have x3 : w1.cell? ⟨w.heap.size, 3, none⟩ = some (.int .i64 s) := by rw [hX1.cell]; rfl
  have x4 : w1.cell? ⟨w.heap.size, 4, none⟩ = some (.string t) := by rw [hX1.cell]; rfl
  go_wp2_with fail
  refine (put_n (IntKind.u64.wrap m) 1 hb1 (by omega) (by rw [wrapu]; omega) (by rw [wrapu]; omega) (by omega) (by omega)).mono ?_
  rintro e w2 ⟨rfl, sv2, hb2, hw2⟩
  go_wp2
  go_end0
  refine ⟨rfl, sv2, ?_, hW1.trans hw2⟩
  rw [wrapu_nat, List.append_assoc] at hb2
  simpa [V.enc, be1] using hb2

set_option maxRecDepth 100000 in
set_option maxHeartbeats 8000000 in
theorem sv_98 (n : Nat) : Rest n 98 := by
  intro m f s t ks fs a1 c1 a2 c2 zs ys p B bb sv xs w hht hgood hok hR1 hV hc1 hR2 hF hc2 hb hB hp henc hxs
  rw [V.ok] at hok
  obtain ⟨_, ok2, ok3, ok4, ok5, _, _, ok8, ok9⟩ := hok
  have Hok2 := Lib.hid ok2
  have Hok4 := Lib.hid ok4
  have HG := Lib.hid hgood
  clear hR1 hV hR2 hF hp hht ok2 ok4 hgood
  have hbx := hb.alloc (.cells (vcells 98 m f s t a1 ks.len c1 a2 fs.len c2).toArray 273)
  have hX := Blk.new w 273 (vcells 98 m f s t a1 ks.len c1 a2 fs.len c2).toArray
  have hXb : ¬ (w.heap.size = bb) := by have := hb.lt; omega
  have hXr : some w.heap.size ≠ sv.ownBlock := fun e => by have := (hb.row_lt _ e.symm).2; omega
  have hW0 : Wr w (w.alloc (.cells (vcells 98 m f s t a1 ks.len c1 a2 fs.len c2).toArray 273)) bb sv.ownBlock sv.ownBlock := (Wr.refl _ _ _).alloc _
  have hsz0 : (w.alloc (.cells (vcells 98 m f s t a1 ks.len c1 a2 fs.len c2).toArray 273)).heap.size = w.heap.size + 1 := by simp
  go_enter Tryz.func33, Tryz.ntmps33
  go_wp2_with fail
  generalize w.alloc (.cells (vcells 98 m f s t a1 ks.len c1 a2 fs.len c2).toArray 273) = w0 at hbx hX hW0 hsz0 ⊢
  refine (put_n 98 1 hbx (by omega) (by omega) (by omega) (by omega) (by omega)).mono ?_
  rintro e w1 ⟨rfl, sv1, hb1, hw1⟩
  have hX1 := hw1.blk hX hXb hXr
  have hW1 := hW0.trans hw1
  have hsz1 := hW1.size
  have hl1 : (xs ++ be (Int.toNat 98) 1).length = xs.length + 1 := by rw [List.length_append, be_len]
  have x0 : w1.cell? ⟨w.heap.size, 0, none⟩ = some (.int .u8 98) := by rw [hX1.cell]; rfl
  have x1 : w1.cell? ⟨w.heap.size, 1, none⟩ = some (.int .i64 m) := by rw [hX1.cell]; rfl
  have x2 : w1.cell? ⟨w.heap.size, 2, none⟩ = some (.float .f64 f) := by rw [hX1.cell]; rfl
  have x3 : w1.cell? ⟨w.heap.size, 3, none⟩ = some (.int .i64 s) := by rw [hX1.cell]; rfl
  have x4 : w1.cell? ⟨w.heap.size, 4, none⟩ = some (.string t) := by rw [hX1.cell]; rfl
  go_wp2_with fail
  refine (put_n (IntKind.u64.wrap m) 1 hb1 (by omega) (by rw [wrapu]; omega) (by rw [wrapu]; omega) (by omega) (by omega)).mono ?_
  rintro e w2 ⟨rfl, sv2, hb2, hw2⟩
  go_wp2
  go_end0
  refine ⟨rfl, sv2, ?_, hW1.trans hw2⟩
  rw [wrapu_nat, List.append_assoc] at hb2
  simpa [V.enc, be1] using hb2

set_option maxRecDepth 100000 in
set_option maxHeartbeats 8000000 in
theorem sv_66 (n : Nat) : Rest n 66 := by
  intro m f s t ks fs a1 c1 a2 c2 zs ys p B bb sv xs w hht hgood hok hR1 hV hc1 hR2 hF hc2 hb hB hp henc hxs
  rw [V.ok] at hok
  obtain ⟨_, ok2, ok3, ok4, ok5, _, _, ok8, ok9⟩ := hok
  have Hok2 := Lib.hid ok2
  have Hok4 := Lib.hid ok4
  have HG := Lib.hid hgood
  clear hR1 hV hR2 hF hp hht ok2 ok4 hgood
  have hbx := hb.alloc (.cells (vcells 66 m f s t a1 ks.len c1 a2 fs.len c2).toArray 273)
  have hX := Blk.new w 273 (vcells 66 m f s t a1 ks.len c1 a2 fs.len c2).toArray
  have hXb : ¬ (w.heap.size = bb) := by have := hb.lt; omega
  have hXr : some w.heap.size ≠ sv.ownBlock := fun e => by have := (hb.row_lt _ e.symm).2; omega
  have hW0 : Wr w (w.alloc (.cells (vcells 66 m f s t a1 ks.len c1 a2 fs.len c2).toArray 273)) bb sv.ownBlock sv.ownBlock := (Wr.refl _ _ _).alloc _
  have hsz0 : (w.alloc (.cells (vcells 66 m f s t a1 ks.len c1 a2 fs.len c2).toArray 273)).heap.size = w.heap.size + 1 := by simp
  go_enter Tryz.func33, Tryz.ntmps33
  go_wp2_with fail
  generalize w.alloc (.cells (vcells 66 m f s t a1 ks.len c1 a2 fs.len c2).toArray 273) = w0 at hbx hX hW0 hsz0 ⊢
  refine (put_n 66 1 hbx (by omega) (by omega) (by omega) (by omega) (by omega)).mono ?_
  rintro e w1 ⟨rfl, sv1, hb1, hw1⟩
  have hX1 := hw1.blk hX hXb hXr
  have hW1 := hW0.trans hw1
  have hsz1 := hW1.size
  have hl1 : (xs ++ be (Int.toNat 66) 1).length = xs.length + 1 := by rw [List.length_append, be_len]
  have x0 : w1.cell? ⟨w.heap.size, 0, none⟩ = some (.int .u8 66) := by rw [hX1.cell]; rfl
  have x1 : w1.cell? ⟨w.heap.size, 1, none⟩ = some (.int .i64 m) := by rw [hX1.cell]; rfl
  have x2 : w1.cell? ⟨w.heap.size, 2, none⟩ = some (.float .f64 f) := by rw [hX1.cell]; rfl
  have x3 : w1.cell? ⟨w.heap.size, 3, none⟩ = some (.int .i64 s) := by rw [hX1.cell]; rfl
  have x4 : w1.cell? ⟨w.heap.size, 4, none⟩ = some (.string t) := by rw [hX1.cell]; rfl
  go_wp2_with fail
  refine (put_n (IntKind.u64.wrap m) 1 hb1 (by omega) (by rw [wrapu]; omega) (by rw [wrapu]; omega) (by omega) (by omega)).mono ?_
  rintro e w2 ⟨rfl, sv2, hb2, hw2⟩
  go_wp2
  go_end0
  refine ⟨rfl, sv2, ?_, hW1.trans hw2⟩
  rw [wrapu_nat, List.append_assoc] at hb2
  simpa [V.enc, be1] using hb2

set_option maxRecDepth 100000 in
set_option maxHeartbeats 8000000 in
theorem sv_115 (n : Nat) : Rest n 115 := by
  intro m f s t ks fs a1 c1 a2 c2 zs ys p B bb sv xs w hht hgood hok hR1 hV hc1 hR2 hF hc2 hb hB hp henc hxs
  rw [V.ok] at hok
  obtain ⟨_, ok2, ok3, ok4, ok5, _, _, ok8, ok9⟩ := hok
  have Hok2 := Lib.hid ok2
  have Hok4 := Lib.hid ok4
  have HG := Lib.hid hgood
  clear hR1 hV hR2 hF hp hht ok2 ok4 hgood
  have hbx := hb.alloc (.cells (vcells 115 m f s t a1 ks.len c1 a2 fs.len c2).toArray 273)
  have hX := Blk.new w 273 (vcells 115 m f s t a1 ks.len c1 a2 fs.len c2).toArray
  have hXb : ¬ (w.heap.size = bb) := by have := hb.lt; omega
  have hXr : some w.heap.size ≠ sv.ownBlock := fun e => by have := (hb.row_lt _ e.symm).2; omega
  have hW0 : Wr w (w.alloc (.cells (vcells 115 m f s t a1 ks.len c1 a2 fs.len c2).toArray 273)) bb sv.ownBlock sv.ownBlock := (Wr.refl _ _ _).alloc _
  have hsz0 : (w.alloc (.cells (vcells 115 m f s t a1 ks.len c1 a2 fs.len c2).toArray 273)).heap.size = w.heap.size + 1 := by simp
  go_enter Tryz.func33, Tryz.ntmps33
  go_wp2_with fail
  generalize w.alloc (.cells (vcells 115 m f s t a1 ks.len c1 a2 fs.len c2).toArray 273) = w0 at hbx hX hW0 hsz0 ⊢
  refine (put_n 115 1 hbx (by omega) (by omega) (by omega) (by omega) (by omega)).mono ?_
  rintro e w1 ⟨rfl, sv1, hb1, hw1⟩
  have hX1 := hw1.blk hX hXb hXr
  have hW1 := hW0.trans hw1
  have hsz1 := hW1.size
  have hl1 : (xs ++ be (Int.toNat 115) 1).length = xs.length + 1 := by rw [List.length_append, be_len]
  have x0 : w1.cell? ⟨w.heap.size, 0, none⟩ = some (.int .u8 115) := by rw [hX1.cell]; rfl
  have x1 : w1.cell? ⟨w.heap.size, 1, none⟩ = some (.int .i64 m) := by rw [hX1.cell]; rfl
  have x2 : w1.cell? ⟨w.heap.size, 2, none⟩ = some (.float .f64 f) := by rw [hX1.cell]; rfl
  have x3 : w1.cell? ⟨w.heap.size, 3, none⟩ = some (.int .i64 s) := by rw [hX1.cell]; rfl
  have x4 : w1.cell? ⟨w.heap.size, 4, none⟩ = some (.string t) := by rw [hX1.cell]; rfl
  go_wp2_with fail
  refine (put_n (IntKind.u64.wrap m) 2 hb1 (by omega) (by rw [wrapu]; omega) (by rw [wrapu]; omega) (by omega) (by omega)).mono ?_
  rintro e w2 ⟨rfl, sv2, hb2, hw2⟩
  go_wp2
  go_end0
  refine ⟨rfl, sv2, ?_, hW1.trans hw2⟩
  rw [wrapu_nat, List.append_assoc] at hb2
  simpa [V.enc, be1] using hb2

set_option maxRecDepth 100000 in
set_option maxHeartbeats 8000000 in
theorem sv_73 (n : Nat) : Rest n 73 := by
  intro m f s t ks fs a1 c1 a2 c2 zs ys p B bb sv xs w hht hgood hok hR1 hV hc1 hR2 hF hc2 hb hB hp henc hxs
  rw [V.ok] at hok
  obtain ⟨_, ok2, ok3, ok4, ok5, _, _, ok8, ok9⟩ := hok
  have Hok2 := Lib.hid ok2
  have Hok4 := Lib.hid ok4
  have HG := Lib.hid hgood
  clear hR1 hV hR2 hF hp hht ok2 ok4 hgood
  have hbx := hb.alloc (.cells (vcells 73 m f s t a1 ks.len c1 a2 fs.len c2).toArray 273)
  have hX := Blk.new w 273 (vcells 73 m f s t a1 ks.len c1 a2 fs.len c2).toArray
  have hXb : ¬ (w.heap.size = bb) := by have := hb.lt; omega
  have hXr : some w.heap.size ≠ sv.ownBlock := fun e => by have := (hb.row_lt _ e.symm).2; omega
  have hW0 : Wr w (w.alloc (.cells (vcells 73 m f s t a1 ks.len c1 a2 fs.len c2).toArray 273)) bb sv.ownBlock sv.ownBlock := (Wr.refl _ _ _).alloc _
  have hsz0 : (w.alloc (.cells (vcells 73 m f s t a1 ks.len c1 a2 fs.len c2).toArray 273)).heap.size = w.heap.size + 1 := by simp
  go_enter Tryz.func33, Tryz.ntmps33
  go_wp2_with fail
  generalize w.alloc (.cells (vcells 73 m f s t a1 ks.len c1 a2 fs.len c2).toArray 273) = w0 at hbx hX hW0 hsz0 ⊢
  refine (put_n 73 1 hbx (by omega) (by omega) (by omega) (by omega) (by omega)).mono ?_
  rintro e w1 ⟨rfl, sv1, hb1, hw1⟩
  have hX1 := hw1.blk hX hXb hXr
  have hW1 := hW0.trans hw1
  have hsz1 := hW1.size
  have hl1 : (xs ++ be (Int.toNat 73) 1).length = xs.length + 1 := by rw [List.length_append, be_len]
  have x0 : w1.cell? ⟨w.heap.size, 0, none⟩ = some (.int .u8 73) := by rw [hX1.cell]; rfl
  have x1 : w1.cell? ⟨w.heap.size, 1, none⟩ = some (.int .i64 m) := by rw [hX1.cell]; rfl
  have x2 : w1.cell? ⟨w.heap.size, 2, none⟩ = some (.float .f64 f) := by rw [hX1.cell]; rfl
  have x3 : w1.cell? ⟨w.heap.size, 3, none⟩ = some (.int .i64 s) := by rw [hX1.cell]; rfl
  have x4 : w1.cell? ⟨w.heap.size, 4, none⟩ = some (.string t) := by rw [hX1.cell]; rfl
  go_wp2_with fail
  refine (put_n (IntKind.u64.wrap m) 4 hb1 (by omega) (by rw [wrapu]; omega) (by rw [wrapu]; omega) (by omega) (by omega)).mono ?_
  rintro e w2 ⟨rfl, sv2, hb2, hw2⟩
  go_wp2
  go_end0
  refine ⟨rfl, sv2, ?_, hW1.trans hw2⟩
  rw [wrapu_nat, List.append_assoc] at hb2
  simpa [V.enc, be1] using hb2

set_option maxRecDepth 100000 in
set_option maxHeartbeats 8000000 in
theorem sv_108 (n : Nat) : Rest n 108 := by
  intro m f s t ks fs a1 c1 a2 c2 zs ys p B bb sv xs w hht hgood hok hR1 hV hc1 hR2 hF hc2 hb hB hp henc hxs
  rw [V.ok] at hok
  obtain ⟨_, ok2, ok3, ok4, ok5, _, _, ok8, ok9⟩ := hok
  have Hok2 := Lib.hid ok2
  have Hok4 := Lib.hid ok4
  have HG := Lib.hid hgood
  clear hR1 hV hR2 hF hp hht ok2 ok4 hgood
  have hbx := hb.alloc (.cells (vcells 108 m f s t a1 ks.len c1 a2 fs.len c2).toArray 273)
  have hX := Blk.new w 273 (vcells 108 m f s t a1 ks.len c1 a2 fs.len c2).toArray
  have hXb : ¬ (w.heap.size = bb) := by have := hb.lt; omega
  have hXr : some w.heap.size ≠ sv.ownBlock := fun e => by have := (hb.row_lt _ e.symm).2; omega
  have hW0 : Wr w (w.alloc (.cells (vcells 108 m f s t a1 ks.len c1 a2 fs.len c2).toArray 273)) bb sv.ownBlock sv.ownBlock := (Wr.refl _ _ _).alloc _
  have hsz0 : (w.alloc (.cells (vcells 108 m f s t a1 ks.len c1 a2 fs.len c2).toArray 273)).heap.size = w.heap.size + 1 := by simp
  go_enter Tryz.func33, Tryz.ntmps33
  go_wp2_with fail
  generalize w.alloc (.cells (vcells 108 m f s t a1 ks.len c1 a2 fs.len c2).toArray 273) = w0 at hbx hX hW0 hsz0 ⊢
  refine (put_n 108 1 hbx (by omega) (by omega) (by omega) (by omega) (by omega)).mono ?_
  rintro e w1 ⟨rfl, sv1, hb1, hw1⟩
  have hX1 := hw1.blk hX hXb hXr
  have hW1 := hW0.trans hw1
  have hsz1 := hW1.size
  have hl1 : (xs ++ be (Int.toNat 108) 1).length = xs.length + 1 := by rw [List.length_append, be_len]
  have x0 : w1.cell? ⟨w.heap.size, 0, none⟩ = some (.int .u8 108) := by rw [hX1.cell]; rfl
  have x1 : w1.cell? ⟨w.heap.size, 1, none⟩ = some (.int .i64 m) := by rw [hX1.cell]; rfl
  have x2 : w1.cell? ⟨w.heap.size, 2, none⟩ = some (.float .f64 f) := by rw [hX1.cell]; rfl
  have x3 : w1.cell? ⟨w.heap.size, 3, none⟩ = some (.int .i64 s) := by rw [hX1.cell]; rfl
  have x4 : w1.cell? ⟨w.heap.size, 4, none⟩ = some (.string t) := by rw [hX1.cell]; rfl
  go_wp2_with fail
  refine (put_n (IntKind.u64.wrap m) 8 hb1 (by omega) (by rw [wrapu]; omega) (by rw [wrapu]; omega) (by omega) (by omega)).mono ?_
  rintro e w2 ⟨rfl, sv2, hb2, hw2⟩
  go_wp2
  go_end0
  refine ⟨rfl, sv2, ?_, hW1.trans hw2⟩
  rw [wrapu_nat, List.append_assoc] at hb2
  simpa [V.enc, be1] using hb2

set_option maxRecDepth 100000 in
set_option maxHeartbeats 8000000 in
theorem sv_84 (n : Nat) : Rest n 84 := by
  intro m f s t ks fs a1 c1 a2 c2 zs ys p B bb sv xs w hht hgood hok hR1 hV hc1 hR2 hF hc2 hb hB hp henc hxs
  rw [V.ok] at hok
  obtain ⟨_, ok2, ok3, ok4, ok5, _, _, ok8, ok9⟩ := hok
  have Hok2 := Lib.hid ok2
  have Hok4 := Lib.hid ok4
  have HG := Lib.hid hgood
  clear hR1 hV hR2 hF hp hht ok2 ok4 hgood
  have hbx := hb.alloc (.cells (vcells 84 m f s t a1 ks.len c1 a2 fs.len c2).toArray 273)
  have hX := Blk.new w 273 (vcells 84 m f s t a1 ks.len c1 a2 fs.len c2).toArray
  have hXb : ¬ (w.heap.size = bb) := by have := hb.lt; omega
  have hXr : some w.heap.size ≠ sv.ownBlock := fun e => by have := (hb.row_lt _ e.symm).2; omega
  have hW0 : Wr w (w.alloc (.cells (vcells 84 m f s t a1 ks.len c1 a2 fs.len c2).toArray 273)) bb sv.ownBlock sv.ownBlock := (Wr.refl _ _ _).alloc _
  have hsz0 : (w.alloc (.cells (vcells 84 m f s t a1 ks.len c1 a2 fs.len c2).toArray 273)).heap.size = w.heap.size + 1 := by simp
  go_enter Tryz.func33, Tryz.ntmps33
  go_wp2_with fail
  generalize w.alloc (.cells (vcells 84 m f s t a1 ks.len c1 a2 fs.len c2).toArray 273) = w0 at hbx hX hW0 hsz0 ⊢
  refine (put_n 84 1 hbx (by omega) (by omega) (by omega) (by omega) (by omega)).mono ?_
  rintro e w1 ⟨rfl, sv1, hb1, hw1⟩
  have hX1 := hw1.blk hX hXb hXr
  have hW1 := hW0.trans hw1
  have hsz1 := hW1.size
  have hl1 : (xs ++ be (Int.toNat 84) 1).length = xs.length + 1 := by rw [List.length_append, be_len]
  have x0 : w1.cell? ⟨w.heap.size, 0, none⟩ = some (.int .u8 84) := by rw [hX1.cell]; rfl
  have x1 : w1.cell? ⟨w.heap.size, 1, none⟩ = some (.int .i64 m) := by rw [hX1.cell]; rfl
  have x2 : w1.cell? ⟨w.heap.size, 2, none⟩ = some (.float .f64 f) := by rw [hX1.cell]; rfl
  have x3 : w1.cell? ⟨w.heap.size, 3, none⟩ = some (.int .i64 s) := by rw [hX1.cell]; rfl
  have x4 : w1.cell? ⟨w.heap.size, 4, none⟩ = some (.string t) := by rw [hX1.cell]; rfl
  go_wp2_with fail
  refine (put_n (IntKind.u64.wrap m) 8 hb1 (by omega) (by rw [wrapu]; omega) (by rw [wrapu]; omega) (by omega) (by omega)).mono ?_
  rintro e w2 ⟨rfl, sv2, hb2, hw2⟩
  go_wp2
  go_end0
  refine ⟨rfl, sv2, ?_, hW1.trans hw2⟩
  rw [wrapu_nat, List.append_assoc] at hb2
  simpa [V.enc, be1] using hb2

set_option maxRecDepth 100000 in
set_option maxHeartbeats 8000000 in
theorem sv_83 (n : Nat) : Rest n 83 := by
  intro m f s t ks fs a1 c1 a2 c2 zs ys p B bb sv xs w hht hgood hok hR1 hV hc1 hR2 hF hc2 hb hB hp henc hxs
  rw [V.ok] at hok
  obtain ⟨_, ok2, ok3, ok4, ok5, _, _, ok8, ok9⟩ := hok
  have Hok2 := Lib.hid ok2
  have Hok4 := Lib.hid ok4
  have HG := Lib.hid hgood
  clear hR1 hV hR2 hF hp hht ok2 ok4 hgood
  have hbx := hb.alloc (.cells (vcells 83 m f s t a1 ks.len c1 a2 fs.len c2).toArray 273)
  have hX := Blk.new w 273 (vcells 83 m f s t a1 ks.len c1 a2 fs.len c2).toArray
  have hXb : ¬ (w.heap.size = bb) := by have := hb.lt; omega
  have hXr : some w.heap.size ≠ sv.ownBlock := fun e => by have := (hb.row_lt _ e.symm).2; omega
  have hW0 : Wr w (w.alloc (.cells (vcells 83 m f s t a1 ks.len c1 a2 fs.len c2).toArray 273)) bb sv.ownBlock sv.ownBlock := (Wr.refl _ _ _).alloc _
  have hsz0 : (w.alloc (.cells (vcells 83 m f s t a1 ks.len c1 a2 fs.len c2).toArray 273)).heap.size = w.heap.size + 1 := by simp
  go_enter Tryz.func33, Tryz.ntmps33
  go_wp2_with fail
  generalize w.alloc (.cells (vcells 83 m f s t a1 ks.len c1 a2 fs.len c2).toArray 273) = w0 at hbx hX hW0 hsz0 ⊢
  refine (put_n 83 1 hbx (by omega) (by omega) (by omega) (by omega) (by omega)).mono ?_
  rintro e w1 ⟨rfl, sv1, hb1, hw1⟩
  have hX1 := hw1.blk hX hXb hXr
  have hW1 := hW0.trans hw1
  have hsz1 := hW1.size
  have hl1 : (xs ++ be (Int.toNat 83) 1).length = xs.length + 1 := by rw [List.length_append, be_len]
  have x0 : w1.cell? ⟨w.heap.size, 0, none⟩ = some (.int .u8 83) := by rw [hX1.cell]; rfl
  have x1 : w1.cell? ⟨w.heap.size, 1, none⟩ = some (.int .i64 m) := by rw [hX1.cell]; rfl
  have x2 : w1.cell? ⟨w.heap.size, 2, none⟩ = some (.float .f64 f) := by rw [hX1.cell]; rfl
  have x3 : w1.cell? ⟨w.heap.size, 3, none⟩ = some (.int .i64 s) := by rw [hX1.cell]; rfl
  have x4 : w1.cell? ⟨w.heap.size, 4, none⟩ = some (.string t) := by rw [hX1.cell]; rfl
  have ht : t.size ≤ 2000 := by
    have := HG.out
    rw [V.good] at this
    exact this.1
  go_wp2_with fail
  refine (long_any t hb1 (by omega) (by omega) (by omega)).mono ?_
  rintro e w2 ⟨rfl, sv2, hb2, hw2⟩
  go_wp2
  go_end0
  refine ⟨rfl, sv2, ?_, hW1.trans hw2⟩
  rw [List.append_assoc] at hb2
  simpa [V.enc, be1] using hb2

set_option maxRecDepth 100000 in
set_option maxHeartbeats 8000000 in
theorem sv_120 (n : Nat) : Rest n 120 := by
  intro m f s t ks fs a1 c1 a2 c2 zs ys p B bb sv xs w hht hgood hok hR1 hV hc1 hR2 hF hc2 hb hB hp henc hxs
  rw [V.ok] at hok
  obtain ⟨_, ok2, ok3, ok4, ok5, _, _, ok8, ok9⟩ := hok
  have Hok2 := Lib.hid ok2
  have Hok4 := Lib.hid ok4
  have HG := Lib.hid hgood
  clear hR1 hV hR2 hF hp hht ok2 ok4 hgood
  have hbx := hb.alloc (.cells (vcells 120 m f s t a1 ks.len c1 a2 fs.len c2).toArray 273)
  have hX := Blk.new w 273 (vcells 120 m f s t a1 ks.len c1 a2 fs.len c2).toArray
  have hXb : ¬ (w.heap.size = bb) := by have := hb.lt; omega
  have hXr : some w.heap.size ≠ sv.ownBlock := fun e => by have := (hb.row_lt _ e.symm).2; omega
  have hW0 : Wr w (w.alloc (.cells (vcells 120 m f s t a1 ks.len c1 a2 fs.len c2).toArray 273)) bb sv.ownBlock sv.ownBlock := (Wr.refl _ _ _).alloc _
  have hsz0 : (w.alloc (.cells (vcells 120 m f s t a1 ks.len c1 a2 fs.len c2).toArray 273)).heap.size = w.heap.size + 1 := by simp
  go_enter Tryz.func33, Tryz.ntmps33
  go_wp2_with fail
  generalize w.alloc (.cells (vcells 120 m f s t a1 ks.len c1 a2 fs.len c2).toArray 273) = w0 at hbx hX hW0 hsz0 ⊢
  refine (put_n 120 1 hbx (by omega) (by omega) (by omega) (by omega) (by omega)).mono ?_
  rintro e w1 ⟨rfl, sv1, hb1, hw1⟩
  have hX1 := hw1.blk hX hXb hXr
  have hW1 := hW0.trans hw1
  have hsz1 := hW1.size
  have hl1 : (xs ++ be (Int.toNat 120) 1).length = xs.length + 1 := by rw [List.length_append, be_len]
  have x0 : w1.cell? ⟨w.heap.size, 0, none⟩ = some (.int .u8 120) := by rw [hX1.cell]; rfl
  have x1 : w1.cell? ⟨w.heap.size, 1, none⟩ = some (.int .i64 m) := by rw [hX1.cell]; rfl
  have x2 : w1.cell? ⟨w.heap.size, 2, none⟩ = some (.float .f64 f) := by rw [hX1.cell]; rfl
  have x3 : w1.cell? ⟨w.heap.size, 3, none⟩ = some (.int .i64 s) := by rw [hX1.cell]; rfl
  have x4 : w1.cell? ⟨w.heap.size, 4, none⟩ = some (.string t) := by rw [hX1.cell]; rfl
  have ht : t.size ≤ 2000 := by
    have := HG.out
    rw [V.good] at this
    exact this.1
  go_wp2_with fail
  refine (long_any t hb1 (by omega) (by omega) (by omega)).mono ?_
  rintro e w2 ⟨rfl, sv2, hb2, hw2⟩
  go_wp2
  go_end0
  refine ⟨rfl, sv2, ?_, hW1.trans hw2⟩
  rw [List.append_assoc] at hb2
  simpa [V.enc, be1] using hb2

set_option maxRecDepth 100000 in
set_option maxHeartbeats 8000000 in
theorem sv_86 (n : Nat) : Rest n 86 := by
  intro m f s t ks fs a1 c1 a2 c2 zs ys p B bb sv xs w hht hgood hok hR1 hV hc1 hR2 hF hc2 hb hB hp henc hxs
  rw [V.ok] at hok
  obtain ⟨_, ok2, ok3, ok4, ok5, _, _, ok8, ok9⟩ := hok
  have Hok2 := Lib.hid ok2
  have Hok4 := Lib.hid ok4
  have HG := Lib.hid hgood
  clear hR1 hV hR2 hF hp hht ok2 ok4 hgood
  have hbx := hb.alloc (.cells (vcells 86 m f s t a1 ks.len c1 a2 fs.len c2).toArray 273)
  have hX := Blk.new w 273 (vcells 86 m f s t a1 ks.len c1 a2 fs.len c2).toArray
  have hXb : ¬ (w.heap.size = bb) := by have := hb.lt; omega
  have hXr : some w.heap.size ≠ sv.ownBlock := fun e => by have := (hb.row_lt _ e.symm).2; omega
  have hW0 : Wr w (w.alloc (.cells (vcells 86 m f s t a1 ks.len c1 a2 fs.len c2).toArray 273)) bb sv.ownBlock sv.ownBlock := (Wr.refl _ _ _).alloc _
  have hsz0 : (w.alloc (.cells (vcells 86 m f s t a1 ks.len c1 a2 fs.len c2).toArray 273)).heap.size = w.heap.size + 1 := by simp
  go_enter Tryz.func33, Tryz.ntmps33
  go_wp2_with fail
  generalize w.alloc (.cells (vcells 86 m f s t a1 ks.len c1 a2 fs.len c2).toArray 273) = w0 at hbx hX hW0 hsz0 ⊢
  refine (put_n 86 1 hbx (by omega) (by omega) (by omega) (by omega) (by omega)).mono ?_
  rintro e w1 ⟨rfl, sv1, hb1, hw1⟩
  have hX1 := hw1.blk hX hXb hXr
  have hW1 := hW0.trans hw1
  have hsz1 := hW1.size
  have hl1 : (xs ++ be (Int.toNat 86) 1).length = xs.length + 1 := by rw [List.length_append, be_len]
  have x0 : w1.cell? ⟨w.heap.size, 0, none⟩ = some (.int .u8 86) := by rw [hX1.cell]; rfl
  have x1 : w1.cell? ⟨w.heap.size, 1, none⟩ = some (.int .i64 m) := by rw [hX1.cell]; rfl
  have x2 : w1.cell? ⟨w.heap.size, 2, none⟩ = some (.float .f64 f) := by rw [hX1.cell]; rfl
  have x3 : w1.cell? ⟨w.heap.size, 3, none⟩ = some (.int .i64 s) := by rw [hX1.cell]; rfl
  have x4 : w1.cell? ⟨w.heap.size, 4, none⟩ = some (.string t) := by rw [hX1.cell]; rfl
  go_wp2
  go_end0
  refine ⟨rfl, sv1, ?_, hW1⟩
  simpa [V.enc, be1] using hb1

set_option maxRecDepth 100000 in
set_option maxHeartbeats 8000000 in
theorem sv_68 (n : Nat) : Rest n 68 := by
  intro m f s t ks fs a1 c1 a2 c2 zs ys p B bb sv xs w hht hgood hok hR1 hV hc1 hR2 hF hc2 hb hB hp henc hxs
  rw [V.ok] at hok
  obtain ⟨_, ok2, ok3, ok4, ok5, _, _, ok8, ok9⟩ := hok
  have Hok2 := Lib.hid ok2
  have Hok4 := Lib.hid ok4
  have HG := Lib.hid hgood
  clear hR1 hV hR2 hF hp hht ok2 ok4 hgood
  have hbx := hb.alloc (.cells (vcells 68 m f s t a1 ks.len c1 a2 fs.len c2).toArray 273)
  have hX := Blk.new w 273 (vcells 68 m f s t a1 ks.len c1 a2 fs.len c2).toArray
  have hXb : ¬ (w.heap.size = bb) := by have := hb.lt; omega
  have hXr : some w.heap.size ≠ sv.ownBlock := fun e => by have := (hb.row_lt _ e.symm).2; omega
  have hW0 : Wr w (w.alloc (.cells (vcells 68 m f s t a1 ks.len c1 a2 fs.len c2).toArray 273)) bb sv.ownBlock sv.ownBlock := (Wr.refl _ _ _).alloc _
  have hsz0 : (w.alloc (.cells (vcells 68 m f s t a1 ks.len c1 a2 fs.len c2).toArray 273)).heap.size = w.heap.size + 1 := by simp
  go_enter Tryz.func33, Tryz.ntmps33
  go_wp2_with fail
  generalize w.alloc (.cells (vcells 68 m f s t a1 ks.len c1 a2 fs.len c2).toArray 273) = w0 at hbx hX hW0 hsz0 ⊢
  refine (put_n 68 1 hbx (by omega) (by omega) (by omega) (by omega) (by omega)).mono ?_
  rintro e w1 ⟨rfl, sv1, hb1, hw1⟩
  have hX1 := hw1.blk hX hXb hXr
  have hW1 := hW0.trans hw1
  have hsz1 := hW1.size
  have hl1 : (xs ++ be (Int.toNat 68) 1).length = xs.length + 1 := by rw [List.length_append, be_len]
  have x0 : w1.cell? ⟨w.heap.size, 0, none⟩ = some (.int .u8 68) := by rw [hX1.cell]; rfl
  have x1 : w1.cell? ⟨w.heap.size, 1, none⟩ = some (.int .i64 m) := by rw [hX1.cell]; rfl
  have x2 : w1.cell? ⟨w.heap.size, 2, none⟩ = some (.float .f64 f) := by rw [hX1.cell]; rfl
  have x3 : w1.cell? ⟨w.heap.size, 3, none⟩ = some (.int .i64 s) := by rw [hX1.cell]; rfl
  have x4 : w1.cell? ⟨w.heap.size, 4, none⟩ = some (.string t) := by rw [hX1.cell]; rfl
  go_wp2_with fail
  refine (put_n (IntKind.u64.wrap s) 1 hb1 (by omega) (by rw [wrapu]; omega) (by rw [wrapu]; omega) (by omega) (by omega)).mono ?_
  rintro e w2 ⟨rfl, sv2, hb2, hw2⟩
  have hX2 := hw2.blk hX1 hXb (hw1.ne hX.lt hXr)
  have hW2 := hW1.trans hw2
  have hsz2 := hW2.size
  have y1 : w2.cell? ⟨w.heap.size, 1, none⟩ = some (.int .i64 m) := by rw [hX2.cell]; rfl
  go_wp2_with fail
  refine (put_n (IntKind.u64.wrap m) 4 hb2 (by omega) (by rw [wrapu]; omega) (by rw [wrapu]; omega) (by omega) (by rw [List.length_append, be_len]; omega)).mono ?_
  rintro e w3 ⟨rfl, sv3, hb3, hw3⟩
  go_wp2
  go_end0
  refine ⟨rfl, sv3, ?_, hW2.trans hw3⟩
  rw [wrapu_nat, wrapu_nat, List.append_assoc, List.append_assoc] at hb3
  simpa [V.enc, be1] using hb3

end Go.Proofs.YtabeppaehenefaaGreat

namespace Go.Proofs.YtabeppaehenefaaGreat
open Go.RowKit

theorem bits64 (f : Nat) (w : World) : (callFunc 41 #[.float .f64 f]).run Tryz.prog w = .ok (.value (.int .u64 f)) w := by kernel_rfl
theorem bits32 (f : Nat) (w : World) : (callFunc 40 #[.float .f32 f]).run Tryz.prog w = .ok (.value (.int .u32 f)) w := by kernel_rfl

set_option maxRecDepth 100000 in
set_option maxHeartbeats 8000000 in
theorem sv_100 (n : Nat) : Rest n 100 := by
  intro m f s t ks fs a1 c1 a2 c2 zs ys p B bb sv xs w hht hgood hok hR1 hV hc1 hR2 hF hc2 hb hB hp henc hxs
  rw [V.ok] at hok
  obtain ⟨_, ok2, ok3, ok4, ok5, _, _, ok8, ok9⟩ := hok
  have Hok2 := Lib.hid ok2
  have Hok4 := Lib.hid ok4
  have HG := Lib.hid hgood
  clear hR1 hV hR2 hF hp hht ok2 ok4 hgood
  have hbx := hb.alloc (.cells (vcells 100 m f s t a1 ks.len c1 a2 fs.len c2).toArray 273)
  have hX := Blk.new w 273 (vcells 100 m f s t a1 ks.len c1 a2 fs.len c2).toArray
  have hXb : ¬ (w.heap.size = bb) := by have := hb.lt; omega
  have hXr : some w.heap.size ≠ sv.ownBlock := fun e => by have := (hb.row_lt _ e.symm).2; omega
  have hW0 : Wr w (w.alloc (.cells (vcells 100 m f s t a1 ks.len c1 a2 fs.len c2).toArray 273)) bb sv.ownBlock sv.ownBlock := (Wr.refl _ _ _).alloc _
  have hsz0 : (w.alloc (.cells (vcells 100 m f s t a1 ks.len c1 a2 fs.len c2).toArray 273)).heap.size = w.heap.size + 1 := by simp
  go_enter Tryz.func33, Tryz.ntmps33
  go_wp2_with fail
  generalize w.alloc (.cells (vcells 100 m f s t a1 ks.len c1 a2 fs.len c2).toArray 273) = w0 at hbx hX hW0 hsz0 ⊢
  refine (put_n 100 1 hbx (by omega) (by omega) (by omega) (by omega) (by omega)).mono ?_
  rintro e w1 ⟨rfl, sv1, hb1, hw1⟩
  have hX1 := hw1.blk hX hXb hXr
  have hW1 := hW0.trans hw1
  have hsz1 := hW1.size
  have hl1 : (xs ++ be (Int.toNat 100) 1).length = xs.length + 1 := by rw [List.length_append, be_len]
  have x0 : w1.cell? ⟨w.heap.size, 0, none⟩ = some (.int .u8 100) := by rw [hX1.cell]; rfl
  have x1 : w1.cell? ⟨w.heap.size, 1, none⟩ = some (.int .i64 m) := by rw [hX1.cell]; rfl
  have x2 : w1.cell? ⟨w.heap.size, 2, none⟩ = some (.float .f64 f) := by rw [hX1.cell]; rfl
  have x3 : w1.cell? ⟨w.heap.size, 3, none⟩ = some (.int .i64 s) := by rw [hX1.cell]; rfl
  have x4 : w1.cell? ⟨w.heap.size, 4, none⟩ = some (.string t) := by rw [hX1.cell]; rfl
  have hb64 := fun w => bits64 f w
  go_wp2_with fail
  refine (put_n (f : Int) 8 hb1 (by omega) (by omega) (by omega) (by omega) (by omega)).mono ?_
  rintro e w2 ⟨rfl, sv2, hb2, hw2⟩
  go_wp2
  go_end0
  refine ⟨rfl, sv2, ?_, hW1.trans hw2⟩
  rw [List.append_assoc] at hb2
  simpa [V.enc, be1] using hb2

end Go.Proofs.YtabeppaehenefaaGreat

namespace Go.Proofs.YtabeppaehenefaaGreat
open Go.RowKit

set_option maxRecDepth 100000 in
set_option maxHeartbeats 8000000 in
theorem sv_70 (n : Nat) (hT : STab n) : Rest (n + 1) 70 := by
  intro m f s t ks fs a1 c1 a2 c2 zs ys p B bb sv xs w hht hgood hok hR1 hV hc1 hR2 hF hc2 hb hB hp henc hxs
  rw [V.ok] at hok
  obtain ⟨_, ok2, ok3, ok4, ok5, ok6, ok7, ok8, ok9⟩ := hok
  have Hok6 := Lib.hid ok6
  have Hok7 := Lib.hid ok7
  clear ok6 ok7
  have Hok2 := Lib.hid ok2
  have Hok4 := Lib.hid ok4
  have HG := Lib.hid hgood
  have HR1 := Lib.hid hR1
  have HV := Lib.hid hV
  have HR2 := Lib.hid hR2
  have HF := Lib.hid hF
  have HP := Lib.hid hp
  have HT := Lib.hid hT
  have hhk : ks.ht ≤ n ∧ fs.ht ≤ n := by rw [V.ht] at hht; omega
  clear hR1 hV hR2 hF hp hht ok2 ok4 hgood hT
  have hbx := hb.alloc (.cells (vcells 70 m f s t a1 ks.len c1 a2 fs.len c2).toArray 273)
  have hX := Blk.new w 273 (vcells 70 m f s t a1 ks.len c1 a2 fs.len c2).toArray
  have hXb : ¬ (w.heap.size = bb) := by have := hb.lt; omega
  have hXr : some w.heap.size ≠ sv.ownBlock := fun e => by have := (hb.row_lt _ e.symm).2; omega
  have hW0 : Wr w (w.alloc (.cells (vcells 70 m f s t a1 ks.len c1 a2 fs.len c2).toArray 273)) bb sv.ownBlock sv.ownBlock := (Wr.refl _ _ _).alloc _
  have hsz0 : (w.alloc (.cells (vcells 70 m f s t a1 ks.len c1 a2 fs.len c2).toArray 273)).heap.size = w.heap.size + 1 := by simp
  go_enter Tryz.func33, Tryz.ntmps33
  go_wp2_with fail
  generalize w.alloc (.cells (vcells 70 m f s t a1 ks.len c1 a2 fs.len c2).toArray 273) = w0 at hbx hX hW0 hsz0 ⊢
  refine (put_n 70 1 hbx (by omega) (by omega) (by omega) (by omega) (by omega)).mono ?_
  rintro e w1 ⟨rfl, sv1, hb1, hw1⟩
  have hX1 := hw1.blk hX hXb hXr
  have hW1 := hW0.trans hw1
  have hsz1 := hW1.size
  have hl1 : (xs ++ be (Int.toNat 70) 1).length = xs.length + 1 := by rw [List.length_append, be_len]
  have x0 : w1.cell? ⟨w.heap.size, 0, none⟩ = some (.int .u8 70) := by rw [hX1.cell]; rfl
  have x1 : w1.cell? ⟨w.heap.size, 1, none⟩ = some (.int .i64 m) := by rw [hX1.cell]; rfl
  have x2 : w1.cell? ⟨w.heap.size, 2, none⟩ = some (.float .f64 f) := by rw [hX1.cell]; rfl
  have x3 : w1.cell? ⟨w.heap.size, 3, none⟩ = some (.int .i64 s) := by rw [hX1.cell]; rfl
  have x4 : w1.cell? ⟨w.heap.size, 4, none⟩ = some (.string t) := by rw [hX1.cell]; rfl
  have x5 : w1.cell? ⟨w.heap.size, 5, none⟩ = some (.slice a1 ks.len c1) := by rw [hX1.cell]; rfl
  have x6 : w1.cell? ⟨w.heap.size, 6, none⟩ = some (.slice a2 fs.len c2) := by rw [hX1.cell]; rfl
  have hgd := HG.out
  rw [V.good] at hgd
  have hn1 : ∀ g, p g → g < w1.heap.size ∧ g ≠ bb ∧ some g ≠ sv1.ownBlock := fun g hg => ⟨by have := (HP.out g hg).1; omega, (HP.out g hg).2.1, hW1.ne (HP.out g hg).1 (HP.out g hg).2.2⟩
  have hk1 : ∀ g, p g → w1.heap[g]? = w.heap[g]? := fun g hg => hW1.block g (HP.out g hg).1 (HP.out g hg).2.1 (HP.out g hg).2.2
  have hgf : fs.good none ∧ fs.enc.length ≤ 20000 := by
    rcases hgd.2 with h | ⟨h, _⟩ | ⟨_, h⟩
    · simp [Simple] at h
    · exact absurd h (by decide)
    · exact h
  have hel : (V.mk 70 m f s t ks fs).enc.length = 5 + fs.enc.length := by simp [V.enc, be_len]; omega
  have hcall := HT.out fs none a2 c2 ys p B bb sv1 _ w1 hhk.2 hgf.1 Hok7.out ok9 (HR2.out.keep hk1) (HF.out.keep hk1) hc2 hb1 (by omega) hn1 (by omega) (by omega)
  have HCall := Lib.hid hcall
  clear hcall hn1 hk1 hgd hgf
  go_wp2_with fail
  refine HCall.out.mono ?_
  rintro e w2 ⟨rfl, sv2, hb2, hw2⟩
  go_wp2
  go_end0
  refine ⟨rfl, sv2, ?_, hW1.trans hw2⟩
  rw [List.append_assoc] at hb2
  simpa [V.enc, be1, tab] using hb2

set_option maxRecDepth 100000 in
set_option maxHeartbeats 8000000 in
theorem sv_65 (n : Nat) (hT : SVal n) : Rest (n + 1) 65 := by
  intro m f s t ks fs a1 c1 a2 c2 zs ys p B bb sv xs w hht hgood hok hR1 hV hc1 hR2 hF hc2 hb hB hp henc hxs
  rw [V.ok] at hok
  obtain ⟨_, ok2, ok3, ok4, ok5, ok6, ok7, ok8, ok9⟩ := hok
  have Hok6 := Lib.hid ok6
  have Hok7 := Lib.hid ok7
  clear ok6 ok7
  have Hok2 := Lib.hid ok2
  have Hok4 := Lib.hid ok4
  have HG := Lib.hid hgood
  have HR1 := Lib.hid hR1
  have HV := Lib.hid hV
  have HR2 := Lib.hid hR2
  have HF := Lib.hid hF
  have HP := Lib.hid hp
  have HT := Lib.hid hT
  have hhk : ks.ht ≤ n ∧ fs.ht ≤ n := by rw [V.ht] at hht; omega
  clear hR1 hV hR2 hF hp hht ok2 ok4 hgood hT
  have hbx := hb.alloc (.cells (vcells 65 m f s t a1 ks.len c1 a2 fs.len c2).toArray 273)
  have hX := Blk.new w 273 (vcells 65 m f s t a1 ks.len c1 a2 fs.len c2).toArray
  have hXb : ¬ (w.heap.size = bb) := by have := hb.lt; omega
  have hXr : some w.heap.size ≠ sv.ownBlock := fun e => by have := (hb.row_lt _ e.symm).2; omega
  have hW0 : Wr w (w.alloc (.cells (vcells 65 m f s t a1 ks.len c1 a2 fs.len c2).toArray 273)) bb sv.ownBlock sv.ownBlock := (Wr.refl _ _ _).alloc _
  have hsz0 : (w.alloc (.cells (vcells 65 m f s t a1 ks.len c1 a2 fs.len c2).toArray 273)).heap.size = w.heap.size + 1 := by simp
  go_enter Tryz.func33, Tryz.ntmps33
  go_wp2_with fail
  generalize w.alloc (.cells (vcells 65 m f s t a1 ks.len c1 a2 fs.len c2).toArray 273) = w0 at hbx hX hW0 hsz0 ⊢
  refine (put_n 65 1 hbx (by omega) (by omega) (by omega) (by omega) (by omega)).mono ?_
  rintro e w1 ⟨rfl, sv1, hb1, hw1⟩
  have hX1 := hw1.blk hX hXb hXr
  have hW1 := hW0.trans hw1
  have hsz1 := hW1.size
  have hl1 : (xs ++ be (Int.toNat 65) 1).length = xs.length + 1 := by rw [List.length_append, be_len]
  have x0 : w1.cell? ⟨w.heap.size, 0, none⟩ = some (.int .u8 65) := by rw [hX1.cell]; rfl
  have x1 : w1.cell? ⟨w.heap.size, 1, none⟩ = some (.int .i64 m) := by rw [hX1.cell]; rfl
  have x2 : w1.cell? ⟨w.heap.size, 2, none⟩ = some (.float .f64 f) := by rw [hX1.cell]; rfl
  have x3 : w1.cell? ⟨w.heap.size, 3, none⟩ = some (.int .i64 s) := by rw [hX1.cell]; rfl
  have x4 : w1.cell? ⟨w.heap.size, 4, none⟩ = some (.string t) := by rw [hX1.cell]; rfl
  have x5 : w1.cell? ⟨w.heap.size, 5, none⟩ = some (.slice a1 ks.len c1) := by rw [hX1.cell]; rfl
  have x6 : w1.cell? ⟨w.heap.size, 6, none⟩ = some (.slice a2 fs.len c2) := by rw [hX1.cell]; rfl
  have hgd := HG.out
  rw [V.good] at hgd
  have hn1 : ∀ g, p g → g < w1.heap.size ∧ g ≠ bb ∧ some g ≠ sv1.ownBlock := fun g hg => ⟨by have := (HP.out g hg).1; omega, (HP.out g hg).2.1, hW1.ne (HP.out g hg).1 (HP.out g hg).2.2⟩
  have hk1 : ∀ g, p g → w1.heap[g]? = w.heap[g]? := fun g hg => hW1.block g (HP.out g hg).1 (HP.out g hg).2.1 (HP.out g hg).2.2
  have hgf : ks.good ∧ ks.enc.length ≤ 20000 := by
    rcases hgd.2 with h | ⟨_, h⟩ | ⟨h, _⟩
    · simp [Simple] at h
    · exact h
    · exact absurd h (by decide)
  obtain ⟨hgk, hgl⟩ := hgf
  have HGK := Lib.hid hgk
  have HK1 := Lib.hid hk1
  have HN1 := Lib.hid hn1
  clear hgk hgd hk1 hn1
  go_upto_region 26 with fail
  have hbi := Buf.new2 w1
  have hbel : Below w1.heap.size w1 ((w1.alloc (.cells #[] 5)).alloc (.cells #[.slice (some ⟨w1.heap.size, 0, none⟩) 0 0] 70)) := ((Below.refl _ _).alloc (Nat.le_refl _) _).alloc (by simp) _
  have z5 : ((w1.alloc (.cells #[] 5)).alloc (.cells #[.slice (some ⟨w1.heap.size, 0, none⟩) 0 0] 70)).cell? ⟨w.heap.size, 5, none⟩ = some (.slice a1 ks.len c1) := by
    have hx' := (hX1.alloc (.cells #[] 5)).alloc (.cells #[.slice (some ⟨w1.heap.size, 0, none⟩) 0 0] 70)
    rw [hx'.cell]; rfl
  generalize ((w1.alloc (.cells #[] 5)).alloc (.cells #[.slice (some ⟨w1.heap.size, 0, none⟩) 0 0] 70)) = w2 at hbi hbel z5 ⊢
  generalize hsv0 : (Value.slice (some ⟨w1.heap.size, 0, none⟩) 0 0) = sv0 at hbi ⊢
  clear hsv0 x0 x1 x2 x3 x4 x5 x6
  go_wp2_with fail
  go_loopw [87] (fun i wr => ∃ (j : Nat) (rest : Vs) (done : List UInt8) (svi : Value), i = .int .i64 j ∧ rest.len + j = ks.len ∧ rest.ok ∧ rest.good ∧ rest.ht ≤ n ∧ done ++ rest.enc = ks.enc ∧ VsC w p rest (zs.drop (j * 7)) ∧
    Buf wr w1.heap.size 70 (w1.heap.size + 1) svi done ∧ Below w1.heap.size w1 wr) (fun i _ => ks.len - (intOf i).toNat)
  case atStart => exact ⟨0, ks, [], sv0, rfl, rfl, Hok6.out, HGK.out, hhk.1, rfl, by simpa using HV.out, hbi, hbel⟩
  case round =>
    obtain ⟨j, rest, done, svi, rfl, hrest, hrok, hrg, hrh, hdone, hrV, hbi', hbel'⟩ := hrel
    have hdl : done.length + rest.enc.length = ks.enc.length := by rw [← hdone, List.length_append]
    have Hdone := Lib.hid hdone
    clear hdone hbi hbel z5
    cases rest with
    | nil =>
      rw [Vs.len] at hrest
      have hde : done = ks.enc := by simpa [Vs.enc] using Hdone.out
      subst hde
      have hkl : j = ks.len := by omega
      subst hkl
      have hcv := conv_own hbi'.isOwn
      have hcell := hbi'.cell
      have hbo := hb1.belowAll hbel'
      have hsz := hbel'.size
      obtain ⟨A6, c6, rfl⟩ := hbi'.shape
      clear hrest
      go_wp2_with fail
      refine (long_any ⟨ks.enc.toArray⟩ hbo (by omega) (by show ks.enc.toArray.size ≤ _; simp; omega) (by omega)).mono ?_
      rintro e w3 ⟨rfl, sv', hb2, hw2⟩
      go_wp2
      go_end0
      refine ⟨rfl, sv', ?_, (hW1.trans (Wr.ofBelow hbel' (Nat.le_refl _) _)).trans hw2⟩
      have : (⟨ks.enc.toArray⟩ : ByteArray).size = ks.enc.length := by show ks.enc.toArray.size = _; simp
      rw [this, List.append_assoc] at hb2
      simpa [V.enc, be1] using hb2
    | cons v q =>
      obtain ⟨vk, vn, vf, vs, vt, vks, vfs⟩ := v
      rw [Vs.len] at hrest
      obtain ⟨b, off, a1', c1', a2', c2', us, zs', rfl, hpb, e0, e1, e2, e3, e4, e5, e6, y1, y2, y3, y4, y5, y6, y7⟩ := VsC.at_ HR1.out hrV
      have hkeep : ∀ g, p g → wr.heap[g]? = w.heap[g]? := fun g hg => (hbel'.block g (HN1.out g hg).1).trans (HK1.out g hg)
      have hb' := hkeep b hpb
      rw [← World.cell?_of_block (w := w) (w' := wr) (a := ⟨b, off + j * 7, none⟩) hb'] at e0
      rw [← World.cell?_of_block (w := w) (w' := wr) (a := ⟨b, off + j * 7 + 1, none⟩) hb'] at e1
      rw [← World.cell?_of_block (w := w) (w' := wr) (a := ⟨b, off + j * 7 + 2, none⟩) hb'] at e2
      rw [← World.cell?_of_block (w := w) (w' := wr) (a := ⟨b, off + j * 7 + 3, none⟩) hb'] at e3
      rw [← World.cell?_of_block (w := w) (w' := wr) (a := ⟨b, off + j * 7 + 4, none⟩) hb'] at e4
      rw [← World.cell?_of_block (w := w) (w' := wr) (a := ⟨b, off + j * 7 + 5, none⟩) hb'] at e5
      rw [← World.cell?_of_block (w := w) (w' := wr) (a := ⟨b, off + j * 7 + 6, none⟩) hb'] at e6
      have hk0 : (0 : Int) ≤ (j : Int) := by omega
      have hk1 : (j : Int) < (ks.len : Int) := by omega
      rw [Vs.ok] at hrok
      obtain ⟨o2, o3⟩ := hrok
      rw [Vs.good] at hrg
      obtain ⟨g3, g4⟩ := hrg
      have hlen2 : (Vs.cons (.mk vk vn vf vs vt vks vfs) q).enc.length = (V.mk vk vn vf vs vt vks vfs).enc.length + q.enc.length := by
        rw [Vs.enc, List.length_append]
      have hht2 : (V.mk vk vn vf vs vt vks vfs).ht ≤ n ∧ q.ht ≤ n := by
        rw [Vs.ht] at hrh; omega
      go_upto_region 29 with fail
      have hx1 := Blk.new wr 273 (vcells vk vn vf vs vt a1' vks.len c1' a2' vfs.len c2').toArray
      have hbi1 := hbi'.alloc (.cells (vcells vk vn vf vs vt a1' vks.len c1' a2' vfs.len c2').toArray 273)
      have hbel1 := hbel'.alloc hbel'.size (.cells (vcells vk vn vf vs vt a1' vks.len c1' a2' vfs.len c2').toArray 273)
      generalize wr.alloc (.cells (vcells vk vn vf vs vt a1' vks.len c1' a2' vfs.len c2').toArray 273) = wx at hx1 hbi1 hbel1 ⊢
      have hsx := hbel1.size
      clear e0 e1 e2 e3 e4 e5 e6
      have u0 : wx.cell? ⟨wr.heap.size, 0, none⟩ = some (.int .u8 vk) := by rw [hx1.cell]; rfl
      have u1 : wx.cell? ⟨wr.heap.size, 1, none⟩ = some (.int .i64 vn) := by rw [hx1.cell]; rfl
      have u2 : wx.cell? ⟨wr.heap.size, 2, none⟩ = some (.float .f64 vf) := by rw [hx1.cell]; rfl
      have u3 : wx.cell? ⟨wr.heap.size, 3, none⟩ = some (.int .i64 vs) := by rw [hx1.cell]; rfl
      have u4 : wx.cell? ⟨wr.heap.size, 4, none⟩ = some (.string vt) := by rw [hx1.cell]; rfl
      have u5 : wx.cell? ⟨wr.heap.size, 5, none⟩ = some (.slice a1' vks.len c1') := by rw [hx1.cell]; rfl
      have u6 : wx.cell? ⟨wr.heap.size, 6, none⟩ = some (.slice a2' vfs.len c2') := by rw [hx1.cell]; rfl
      have hk2 : ∀ g, p g → wx.heap[g]? = w.heap[g]? := fun g hg => (hbel1.block g (HN1.out g hg).1).trans (HK1.out g hg)
      have hcall := HT.out vk vn vf vs vt vks vfs a1' c1' a2' c2' us zs' p w1.heap.size (w1.heap.size + 1) svi done wx hht2.1 g3 o2 (y1.keep hk2) (y2.keep hk2) y3 (y4.keep hk2) (y5.keep hk2) y6 hbi1 (by omega)
        (fun g hg => ⟨by have := (HN1.out g hg).1; omega, by have := (HN1.out g hg).1; omega, fun e => by have := (HN1.out g hg).1; have := (hbi1.row_lt g e.symm).1; omega⟩) (by omega) (by omega)
      have HCall := Lib.hid hcall
      clear hcall hk2 hkeep y1 y2 y4 y5
      go_wp2_with fail
      refine HCall.out.mono ?_
      rintro e w3 ⟨rfl, sv3, hb3, hw3⟩
      have hbel3 : Below w1.heap.size w1 w3 := hbel1.trans (hw3.below (by omega) (fun g hg => (hbi1.row_lt g hg).1) hsx)
      go_wp2
      refine ⟨⟨j + 1, q, _, sv3, by go_num, by omega, o3, g4, hht2.2, ?_, ?_, hb3, hbel3⟩, by simp [intOf]; omega⟩
      · rw [← Hdone.out, Vs.enc]
        simp
      · rw [show (j + 1) * 7 = j * 7 + 7 by omega]
        exact y7

end Go.Proofs.YtabeppaehenefaaGreat

namespace Go.Proofs.YtabeppaehenefaaGreat
open Go.RowKit

theorem spec_all (h102 : ∀ n, Rest n 102) : ∀ n : Nat, SVal n ∧ STab n
  | 0 => by
    have h : SVal 0 := by
      intro k m f s t ks fs a1 c1 a2 c2 zs ys p B bb sv xs w hht
      rw [V.ht] at hht
      omega
    exact ⟨h, spec_table 0 h⟩
  | n + 1 => by
    have ih := spec_all h102 n
    have h : SVal (n + 1) := by
      intro k m f s t ks fs a1 c1 a2 c2 zs ys p B bb sv xs w hht hgood
      have hg := hgood
      rw [V.good] at hg
      rcases hg.2 with hs | ⟨rfl, _⟩ | ⟨rfl, _⟩
      · unfold Simple at hs
        rcases hs with ⟨rfl, _⟩ | ⟨rfl, _⟩ | ⟨rfl, _⟩ | ⟨rfl, _⟩ | ⟨rfl, _⟩ | rfl | ⟨rfl, _⟩ | ⟨rfl, _⟩ | ⟨rfl, _⟩ | ⟨rfl, _⟩ | rfl | rfl | rfl
        · exact sv_116 (n + 1) m f s t ks fs a1 c1 a2 c2 zs ys p B bb sv xs w hht hgood
        · exact sv_98 (n + 1) m f s t ks fs a1 c1 a2 c2 zs ys p B bb sv xs w hht hgood
        · exact sv_66 (n + 1) m f s t ks fs a1 c1 a2 c2 zs ys p B bb sv xs w hht hgood
        · exact sv_115 (n + 1) m f s t ks fs a1 c1 a2 c2 zs ys p B bb sv xs w hht hgood
        · exact sv_73 (n + 1) m f s t ks fs a1 c1 a2 c2 zs ys p B bb sv xs w hht hgood
        · exact sv_108 (n + 1) m f s t ks fs a1 c1 a2 c2 zs ys p B bb sv xs w hht hgood
        · exact sv_84 (n + 1) m f s t ks fs a1 c1 a2 c2 zs ys p B bb sv xs w hht hgood
        · exact h102 (n + 1) m f s t ks fs a1 c1 a2 c2 zs ys p B bb sv xs w hht hgood
        · exact sv_100 (n + 1) m f s t ks fs a1 c1 a2 c2 zs ys p B bb sv xs w hht hgood
        · exact sv_68 (n + 1) m f s t ks fs a1 c1 a2 c2 zs ys p B bb sv xs w hht hgood
        · exact sv_83 (n + 1) m f s t ks fs a1 c1 a2 c2 zs ys p B bb sv xs w hht hgood
        · exact sv_120 (n + 1) m f s t ks fs a1 c1 a2 c2 zs ys p B bb sv xs w hht hgood
        · exact sv_86 (n + 1) m f s t ks fs a1 c1 a2 c2 zs ys p B bb sv xs w hht hgood
      · exact sv_65 n ih.1 m f s t ks fs a1 c1 a2 c2 zs ys p B bb sv xs w hht hgood
      · exact sv_70 n ih.2 m f s t ks fs a1 c1 a2 c2 zs ys p B bb sv xs w hht hgood
    exact ⟨h, spec_table (n + 1) h⟩

end Go.Proofs.YtabeppaehenefaaGreat
