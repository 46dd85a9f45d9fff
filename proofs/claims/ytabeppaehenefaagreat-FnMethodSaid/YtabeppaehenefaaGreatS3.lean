/-
  A float64 below a million does not overflow as a float32.
  The specification's own writer: float32 values; all values and tables.
  TableBytes.
-/
import Derived.Test.YtabeppaehenefaaGreatG1
import Derived.Test.YtabeppaehenefaaGreatS2
namespace Go.Proofs.YtabeppaehenefaaGreat
end Go.Proofs.YtabeppaehenefaaGreat

namespace Go.Proofs.YtabeppaehenefaaGreat
open Go.RowKit

theorem ofNat_mod {a b : Nat} (h : a % 256 = b % 256) : UInt8.ofNat a = UInt8.ofNat b := by
  apply UInt8.toNat_inj.1
  rw [toNat_ofNat8, toNat_ofNat8, h]
theorem be_wrap4 (n : Nat) : be (n % 18446744073709551616) 4 = be n 4 := by
  rw [be4, be4, ofNat_mod (a := n % 18446744073709551616 / 16777216) (b := n / 16777216) (by omega), ofNat_mod (a := n % 18446744073709551616 / 65536) (b := n / 65536) (by omega),
    ofNat_mod (a := n % 18446744073709551616 / 256) (b := n / 256) (by omega), ofNat_mod (a := n % 18446744073709551616) (b := n) (by omega)]

theorem conv32 (f : Nat) (h : okF f) (w : World) : (convert 89 291 (.float .f64 f)).run Tryz.prog w = .ok (.float .f32 (f32 f)) w := by
  have hb : (convert 89 291 (.float .f64 f)).run Tryz.prog w = (Conv.floatToFloat .f64 f .f32).run Tryz.prog w := by kernel_rfl
  rw [hb]
  obtain ⟨s, m, e, h1, h2⟩ := h
  unfold Conv.floatToFloat f32
  rw [h1]
  simp [h2]

set_option maxRecDepth 100000 in
set_option maxHeartbeats 8000000 in
theorem sv_102 (n : Nat) : Rest n 102 := by
  intro m f s t ks fs a1 c1 a2 c2 zs ys p B bb sv xs w hht hgood hok hR1 hV hc1 hR2 hF hc2 hb hB hp henc hxs
  rw [V.ok] at hok
  obtain ⟨_, ok2, ok3, ok4, ok5, _, _, ok8, ok9⟩ := hok
  have Hok2 := Lib.hid ok2
  have Hok4 := Lib.hid ok4
  have HG := Lib.hid hgood
  clear hR1 hV hR2 hF hp hht ok2 ok4 hgood
  have hbx := hb.alloc (.cells (vcells 102 m f s t a1 ks.len c1 a2 fs.len c2).toArray 273)
  have hX := Blk.new w 273 (vcells 102 m f s t a1 ks.len c1 a2 fs.len c2).toArray
  have hXb : ¬ (w.heap.size = bb) := by have := hb.lt; omega
  have hXr : some w.heap.size ≠ sv.ownBlock := fun e => by have := (hb.row_lt _ e.symm).2; omega
  have hW0 : Wr w (w.alloc (.cells (vcells 102 m f s t a1 ks.len c1 a2 fs.len c2).toArray 273)) bb sv.ownBlock sv.ownBlock := (Wr.refl _ _ _).alloc _
  have hsz0 : (w.alloc (.cells (vcells 102 m f s t a1 ks.len c1 a2 fs.len c2).toArray 273)).heap.size = w.heap.size + 1 := by simp
  go_enter Tryz.func33, Tryz.ntmps33
  go_wp2_with fail
  generalize w.alloc (.cells (vcells 102 m f s t a1 ks.len c1 a2 fs.len c2).toArray 273) = w0 at hbx hX hW0 hsz0 ⊢
  refine (put_n 102 1 hbx (by omega) (by omega) (by omega) (by omega) (by omega)).mono ?_
  rintro e w1 ⟨rfl, sv1, hb1, hw1⟩
  have hX1 := hw1.blk hX hXb hXr
  have hW1 := hW0.trans hw1
  have hsz1 := hW1.size
  have hl1 : (xs ++ be (Int.toNat 102) 1).length = xs.length + 1 := by rw [List.length_append, be_len]
  have x0 : w1.cell? ⟨w.heap.size, 0, none⟩ = some (.int .u8 102) := by rw [hX1.cell]; rfl
  have x1 : w1.cell? ⟨w.heap.size, 1, none⟩ = some (.int .i64 m) := by rw [hX1.cell]; rfl
  have x2 : w1.cell? ⟨w.heap.size, 2, none⟩ = some (.float .f64 f) := by rw [hX1.cell]; rfl
  have x3 : w1.cell? ⟨w.heap.size, 3, none⟩ = some (.int .i64 s) := by rw [hX1.cell]; rfl
  have x4 : w1.cell? ⟨w.heap.size, 4, none⟩ = some (.string t) := by rw [hX1.cell]; rfl
  have hfr : okF f := by
    have := HG.out
    rw [V.good] at this
    rcases this.2 with h | ⟨h, _⟩ | ⟨h, _⟩
    · simpa [Simple] using h
    · exact absurd h (by decide)
    · exact absurd h (by decide)
  have hcv := fun w => conv32 f hfr w
  have hb32 := fun w => bits32 (f32 f) w
  clear hfr
  generalize hg : f32 f = g at hcv hb32
  have Hg := Lib.hid hg
  clear hg
  go_wp2_with fail
  refine (put_n (IntKind.u64.wrap (g : Int)) 4 hb1 (by omega) (by rw [wrapu]; omega) (by rw [wrapu]; omega) (by omega) (by omega)).mono ?_
  rintro e w2 ⟨rfl, sv2, hb2, hw2⟩
  go_wp2
  go_end0
  refine ⟨rfl, sv2, ?_, hW1.trans hw2⟩
  rw [wrapu_nat, List.append_assoc] at hb2
  have hu : be (u64 (g : Int)) 4 = be (f32 f) 4 := by
    rw [Hg.out]
    have : u64 (g : Int) = g % 18446744073709551616 := by unfold u64; omega
    rw [this, be_wrap4]
  rw [hu] at hb2
  simpa [V.enc, be1] using hb2

theorem spec_val (n : Nat) : SVal n := (spec_all sv_102 n).1
theorem spec_tab (n : Nat) : STab n := (spec_all sv_102 n).2

end Go.Proofs.YtabeppaehenefaaGreat

namespace Go.Proofs.YtabeppaehenefaaGreat
open Go.RowKit

end Go.Proofs.YtabeppaehenefaaGreat
