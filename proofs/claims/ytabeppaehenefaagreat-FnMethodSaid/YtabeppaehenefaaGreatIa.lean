/-
  The package's writer: numbers.
  The package's writer: numbers of two and four bytes.
  The package's writer: numbers of four bytes.
  The package's writer: numbers stored into a row of bytes, at whatever place of a block.
  The package's writer: numbers of eight bytes.
  The package's writer: names and long strings.
-/
import Derived.Test.YtabeppaehenefaaGreatS1
import Derived.Lib.ConvBytes
import Derived.Deep.RegionWith
namespace Go.Proofs.YtabeppaehenefaaGreat
open Go.RowKit
set_option linter.unusedVariables false
attribute [local go_sem ↓] Go.wp_at_zero Go.wp_at_succ

abbrev zero8 : Array Value := #[.int .u8 0, .int .u8 0, .int .u8 0, .int .u8 0, .int .u8 0, .int .u8 0, .int .u8 0, .int .u8 0]
@[go_sem] theorem make8 (w : World) : (Instr.makeSlice 32 (.int .i64 8) (.int .i64 8)).run Tryz.prog w = .ok (.slice (some ⟨w.heap.size, 0, none⟩) 8 8) (w.alloc (.cells zero8 5)) := by kernel_rfl

@[go_sem] theorem ta_5_5 (n : Int) (w : World) : (Instr.typeAssert (.iface 5 (.int .u8 n)) 20 5 true).run Tryz.prog w = .ok (.tuple #[.int .u8 n, .bool true]) w := by kernel_rfl
@[go_sem] theorem ta_68_5 (n : Int) (w : World) : (Instr.typeAssert (.iface 51 (.int .u16 n)) 20 5 true).run Tryz.prog w = .ok (.tuple #[.int .u8 0, .bool false]) w := by kernel_rfl
@[go_sem] theorem ta_68_68 (n : Int) (w : World) : (Instr.typeAssert (.iface 51 (.int .u16 n)) 20 51 true).run Tryz.prog w = .ok (.tuple #[.int .u16 n, .bool true]) w := by kernel_rfl
@[go_sem] theorem ta_119_5 (n : Int) (w : World) : (Instr.typeAssert (.iface 114 (.int .u32 n)) 20 5 true).run Tryz.prog w = .ok (.tuple #[.int .u8 0, .bool false]) w := by kernel_rfl
@[go_sem] theorem ta_119_68 (n : Int) (w : World) : (Instr.typeAssert (.iface 114 (.int .u32 n)) 20 51 true).run Tryz.prog w = .ok (.tuple #[.int .u16 0, .bool false]) w := by kernel_rfl
@[go_sem] theorem ta_119_119 (n : Int) (w : World) : (Instr.typeAssert (.iface 114 (.int .u32 n)) 20 114 true).run Tryz.prog w = .ok (.tuple #[.int .u32 n, .bool true]) w := by kernel_rfl
@[go_sem] theorem ta_39_5 (n : Int) (w : World) : (Instr.typeAssert (.iface 38 (.int .u64 n)) 20 5 true).run Tryz.prog w = .ok (.tuple #[.int .u8 0, .bool false]) w := by kernel_rfl
@[go_sem] theorem ta_39_68 (n : Int) (w : World) : (Instr.typeAssert (.iface 38 (.int .u64 n)) 20 51 true).run Tryz.prog w = .ok (.tuple #[.int .u16 0, .bool false]) w := by kernel_rfl
@[go_sem] theorem ta_39_119 (n : Int) (w : World) : (Instr.typeAssert (.iface 38 (.int .u64 n)) 20 114 true).run Tryz.prog w = .ok (.tuple #[.int .u32 0, .bool false]) w := by kernel_rfl
@[go_sem] theorem ta_39_39 (n : Int) (w : World) : (Instr.typeAssert (.iface 38 (.int .u64 n)) 20 38 true).run Tryz.prog w = .ok (.tuple #[.int .u64 n, .bool true]) w := by kernel_rfl

def Gave (w : World) (B bb : Nat) (sv : Value) (xs ys : List UInt8) (e : Ending) (w' : World) : Prop :=
  e = .returned .nilIface ∧ ∃ sv', Buf w' B 281 bb sv' (xs ++ ys) ∧ Wr w w' bb sv.ownBlock sv'.ownBlock

set_option maxRecDepth 100000 in
set_option maxHeartbeats 1000000 in
/-- writeFixed of a byte -/
theorem fixed8 {B bb : Nat} {sv : Value} {xs : List UInt8} {w : World} (b : UInt8) (hb : Buf w B 281 bb sv xs) (hB : B ≤ w.heap.size) (hn : xs.length ≤ 1000000) :
    Calls Tryz.prog 63 #[.iface 279 (.pointer (some ⟨bb, 0, none⟩)), .iface 5 (.int .u8 b.toNat)] w (Gave w B bb sv xs [b]) := by
  go_enter Tryz.func63, Tryz.ntmps63
  go_wp2_with fail
  refine (write_any (ys := [b]) ((hb.alloc _).alloc _) ?_ (by simp; omega) (by simp; omega)).mono ?_
  · have := World.ownsRow_lit (base := 0) (e := 5) (size := 1) (w.alloc (.cells zero8 5)) #[.int .u8 b.toNat] 1 (Nat.zero_le _) (by unfold maxLen; omega) rfl
    exact Own.rb (B := 0) (by simpa [Own, bcells] using this)
  rintro e w1 ⟨rfl, sv1, hb1, hw1⟩
  go_wp2
  go_ret
  exact ⟨rfl, sv1, hb1, (((Wr.refl _ _ _).alloc _).alloc _).trans hw1⟩

end Go.Proofs.YtabeppaehenefaaGreat

namespace Go.Proofs.YtabeppaehenefaaGreat
open Go.RowKit
set_option linter.unusedVariables false
attribute [local go_sem ↓] Go.wp_at_zero Go.wp_at_succ

theorem wrap8 (n : Nat) : IntKind.u8.wrap (n : Int) = ((UInt8.ofNat n).toNat : Int) := by
  rw [toNat_ofNat8]
  simp [IntKind.wrap, IntKind.bits, IntKind.signed]

set_option maxRecDepth 100000 in
set_option maxHeartbeats 1000000 in
/-- bePutUint16 -/
theorem put16 {g : Nat} {w : World} (n : Nat) (hg : Blk w g 5 zero8) (hn : n < 65536) :
    Calls Tryz.prog 65 #[.slice (some ⟨g, 0, none⟩) 2 8, .int .u16 n] w fun e w' => e = .returned (.tuple #[]) ∧
      w' = (w.setCell ⟨g, 0, none⟩ (.int .u8 (UInt8.ofNat (n / 256)).toNat)).setCell ⟨g, 1, none⟩ (.int .u8 (UInt8.ofNat n).toNat) := by
  have c0 : w.cell? ⟨g, 0, none⟩ = some (.int .u8 0) := by rw [hg.cell]; rfl
  have c1 : w.cell? ⟨g, 1, none⟩ = some (.int .u8 0) := by rw [hg.cell]; rfl
  have fz := fun i => hg.frozen i
  have h1 : IntKind.u8.wrap (n : Int) = ((UInt8.ofNat n).toNat : Int) := wrap8 n
  have h2 : IntKind.u8.wrap ((n : Int) / 256) = ((UInt8.ofNat (n / 256)).toNat : Int) := by rw [← wrap8]; rfl
  generalize ((UInt8.ofNat n).toNat : Int) = lo at h1 ⊢
  generalize ((UInt8.ofNat (n / 256)).toNat : Int) = hi at h2 ⊢
  go_enter Tryz.func65, Tryz.ntmps65
  go_wp2_with fail
  go_end0
  exact ⟨rfl, rfl⟩

set_option maxRecDepth 100000 in
set_option maxHeartbeats 1000000 in
/-- writeFixed of a uint16 -/
theorem fixed16 {B bb : Nat} {sv : Value} {xs : List UInt8} {w : World} (n : Nat) (hb : Buf w B 281 bb sv xs) (hB : B ≤ w.heap.size) (hx : xs.length ≤ 1000000) (hn : n < 65536) :
    Calls Tryz.prog 63 #[.iface 279 (.pointer (some ⟨bb, 0, none⟩)), .iface 51 (.int .u16 n)] w (Gave w B bb sv xs (be n 2)) := by
  have hblk := Blk.new w 5 zero8
  have hbb := hb.alloc (.cells zero8 5)
  have hne : ¬ (w.heap.size = bb) := by have := hb.lt; omega
  have hW0 : Wr w (w.alloc (.cells zero8 5)) bb sv.ownBlock sv.ownBlock := (Wr.refl _ _ _).alloc _
  have hsz0 : (w.alloc (.cells zero8 5)).heap.size = w.heap.size + 1 := by simp
  go_enter Tryz.func63, Tryz.ntmps63
  go_wp2_with fail
  refine (put16 n hblk hn).mono ?_
  rintro e w1 ⟨rfl, rfl⟩
  have hk := ((hblk.set_ 0 (.int .u8 (UInt8.ofNat (n / 256)).toNat)).set_ 1 (.int .u8 (UInt8.ofNat n).toNat))
  have hsz1 : (((w.alloc (.cells zero8 5)).setCell ⟨w.heap.size, 0, none⟩ (.int .u8 (UInt8.ofNat (n / 256)).toNat)).setCell ⟨w.heap.size, 1, none⟩ (.int .u8 (UInt8.ofNat n).toNat)).heap.size = w.heap.size + 1 := by simp [World.setCell]
  have hbel : Below w.heap.size w (((w.alloc (.cells zero8 5)).setCell ⟨w.heap.size, 0, none⟩ (.int .u8 (UInt8.ofNat (n / 256)).toNat)).setCell ⟨w.heap.size, 1, none⟩ (.int .u8 (UInt8.ofNat n).toNat)) :=
    (((Below.refl _ _).alloc (Nat.le_refl _) _).setCell (by simp) _).setCell (by simp) _
  have hb1 := hb.belowAll hbel
  generalize ((w.alloc (.cells zero8 5)).setCell ⟨w.heap.size, 0, none⟩ (.int .u8 (UInt8.ofNat (n / 256)).toNat)).setCell ⟨w.heap.size, 1, none⟩ (.int .u8 (UInt8.ofNat n).toNat) = w1 at hk hsz1 hbel hb1 ⊢
  have hrb : Rb w1 w1.heap.size (.slice (some ⟨w.heap.size, 0, none⟩) 2 8) (be n 2) := by
    rw [be2]
    refine ⟨_, _, rfl, by simp, fun _ => ⟨_, rfl, by simp; omega, fun j u hu => ?_⟩⟩
    have hadd : (⟨w.heap.size, 0, none⟩ : Addr).add j = ⟨w.heap.size, j, none⟩ := by unfold Addr.add; split <;> simp_all
    rw [hadd, hk.cell]
    match j, hu with
    | 0, hu => simpa [bcells] using hu
    | 1, hu => simpa [bcells] using hu
    | j + 2, hu => simp [bcells] at hu
  go_wp2_with fail
  refine (write_any hb1 hrb (by omega) (by rw [be_len]; omega)).mono ?_
  rintro e w2 ⟨rfl, sv1, hb2, hw2⟩
  go_wp2
  go_ret
  exact ⟨rfl, sv1, hb2, (Wr.ofBelow hbel (Nat.le_refl _) _).trans hw2⟩

end Go.Proofs.YtabeppaehenefaaGreat

namespace Go.Proofs.YtabeppaehenefaaGreat
open Go.RowKit
set_option linter.unusedVariables false
attribute [local go_sem ↓] Go.wp_at_zero Go.wp_at_succ

/-- four cells stored -/
abbrev put4c (w : World) (g o n : Nat) : World :=
  (((w.setCell ⟨g, o, none⟩ (.int .u8 (UInt8.ofNat (n / 16777216)).toNat)).setCell ⟨g, o + 1, none⟩ (.int .u8 (UInt8.ofNat (n / 65536)).toNat)).setCell ⟨g, o + 2, none⟩ (.int .u8 (UInt8.ofNat (n / 256)).toNat)).setCell ⟨g, o + 3, none⟩ (.int .u8 (UInt8.ofNat n).toNat)

set_option maxRecDepth 100000 in
set_option maxHeartbeats 2000000 in
theorem put32_0_4 {g : Nat} {w : World} {cs : Array Value} (n : Nat) (hg : Blk w g 5 cs) (hn : n < 4294967296) (v0 v1 v2 v3 : Int) (d0 : cs[0]? = some (.int .u8 v0)) (d1 : cs[1]? = some (.int .u8 v1)) (d2 : cs[2]? = some (.int .u8 v2)) (d3 : cs[3]? = some (.int .u8 v3)) :
    Calls Tryz.prog 66 #[.slice (some ⟨g, 0, none⟩) 4 8, .int .u32 n] w fun e w' => e = .returned (.tuple #[]) ∧ w' = put4c w g 0 n := by
  have c0 : w.cell? ⟨g, 0, none⟩ = some (.int .u8 v0) := by rw [hg.cell]; exact d0
  have c1 : w.cell? ⟨g, 1, none⟩ = some (.int .u8 v1) := by rw [hg.cell]; exact d1
  have c2 : w.cell? ⟨g, 2, none⟩ = some (.int .u8 v2) := by rw [hg.cell]; exact d2
  have c3 : w.cell? ⟨g, 3, none⟩ = some (.int .u8 v3) := by rw [hg.cell]; exact d3
  clear d0 d1 d2 d3
  have fz := fun i => hg.frozen i
  have h0 : IntKind.u8.wrap (n : Int) = ((UInt8.ofNat n).toNat : Int) := wrap8 n
  have h1 : IntKind.u8.wrap ((n : Int) / 256) = ((UInt8.ofNat (n / 256)).toNat : Int) := by rw [← wrap8]; rfl
  have h2 : IntKind.u8.wrap ((n : Int) / 65536) = ((UInt8.ofNat (n / 65536)).toNat : Int) := by rw [← wrap8]; rfl
  have h3 : IntKind.u8.wrap ((n : Int) / 16777216) = ((UInt8.ofNat (n / 16777216)).toNat : Int) := by rw [← wrap8]; rfl
  unfold put4c
  generalize ((UInt8.ofNat n).toNat : Int) = b0 at h0 ⊢
  generalize ((UInt8.ofNat (n / 256)).toNat : Int) = b1 at h1 ⊢
  generalize ((UInt8.ofNat (n / 65536)).toNat : Int) = b2 at h2 ⊢
  generalize ((UInt8.ofNat (n / 16777216)).toNat : Int) = b3 at h3 ⊢
  go_enter Tryz.func66, Tryz.ntmps66
  go_wp2_with fail
  go_end0
  exact ⟨rfl, rfl⟩

set_option maxRecDepth 100000 in
set_option maxHeartbeats 2000000 in
theorem put32_0_8 {g : Nat} {w : World} {cs : Array Value} (n : Nat) (hg : Blk w g 5 cs) (hn : n < 4294967296) (v0 v1 v2 v3 : Int) (d0 : cs[0]? = some (.int .u8 v0)) (d1 : cs[1]? = some (.int .u8 v1)) (d2 : cs[2]? = some (.int .u8 v2)) (d3 : cs[3]? = some (.int .u8 v3)) :
    Calls Tryz.prog 66 #[.slice (some ⟨g, 0, none⟩) 8 8, .int .u32 n] w fun e w' => e = .returned (.tuple #[]) ∧ w' = put4c w g 0 n := by
  have c0 : w.cell? ⟨g, 0, none⟩ = some (.int .u8 v0) := by rw [hg.cell]; exact d0
  have c1 : w.cell? ⟨g, 1, none⟩ = some (.int .u8 v1) := by rw [hg.cell]; exact d1
  have c2 : w.cell? ⟨g, 2, none⟩ = some (.int .u8 v2) := by rw [hg.cell]; exact d2
  have c3 : w.cell? ⟨g, 3, none⟩ = some (.int .u8 v3) := by rw [hg.cell]; exact d3
  clear d0 d1 d2 d3
  have fz := fun i => hg.frozen i
  have h0 : IntKind.u8.wrap (n : Int) = ((UInt8.ofNat n).toNat : Int) := wrap8 n
  have h1 : IntKind.u8.wrap ((n : Int) / 256) = ((UInt8.ofNat (n / 256)).toNat : Int) := by rw [← wrap8]; rfl
  have h2 : IntKind.u8.wrap ((n : Int) / 65536) = ((UInt8.ofNat (n / 65536)).toNat : Int) := by rw [← wrap8]; rfl
  have h3 : IntKind.u8.wrap ((n : Int) / 16777216) = ((UInt8.ofNat (n / 16777216)).toNat : Int) := by rw [← wrap8]; rfl
  unfold put4c
  generalize ((UInt8.ofNat n).toNat : Int) = b0 at h0 ⊢
  generalize ((UInt8.ofNat (n / 256)).toNat : Int) = b1 at h1 ⊢
  generalize ((UInt8.ofNat (n / 65536)).toNat : Int) = b2 at h2 ⊢
  generalize ((UInt8.ofNat (n / 16777216)).toNat : Int) = b3 at h3 ⊢
  go_enter Tryz.func66, Tryz.ntmps66
  go_wp2_with fail
  go_end0
  exact ⟨rfl, rfl⟩

set_option maxRecDepth 100000 in
set_option maxHeartbeats 2000000 in
theorem put32_4_4 {g : Nat} {w : World} {cs : Array Value} (n : Nat) (hg : Blk w g 5 cs) (hn : n < 4294967296) (v0 v1 v2 v3 : Int) (d0 : cs[4]? = some (.int .u8 v0)) (d1 : cs[5]? = some (.int .u8 v1)) (d2 : cs[6]? = some (.int .u8 v2)) (d3 : cs[7]? = some (.int .u8 v3)) :
    Calls Tryz.prog 66 #[.slice (some ⟨g, 4, none⟩) 4 4, .int .u32 n] w fun e w' => e = .returned (.tuple #[]) ∧ w' = put4c w g 4 n := by
  have c0 : w.cell? ⟨g, 4, none⟩ = some (.int .u8 v0) := by rw [hg.cell]; exact d0
  have c1 : w.cell? ⟨g, 5, none⟩ = some (.int .u8 v1) := by rw [hg.cell]; exact d1
  have c2 : w.cell? ⟨g, 6, none⟩ = some (.int .u8 v2) := by rw [hg.cell]; exact d2
  have c3 : w.cell? ⟨g, 7, none⟩ = some (.int .u8 v3) := by rw [hg.cell]; exact d3
  clear d0 d1 d2 d3
  have fz := fun i => hg.frozen i
  have h0 : IntKind.u8.wrap (n : Int) = ((UInt8.ofNat n).toNat : Int) := wrap8 n
  have h1 : IntKind.u8.wrap ((n : Int) / 256) = ((UInt8.ofNat (n / 256)).toNat : Int) := by rw [← wrap8]; rfl
  have h2 : IntKind.u8.wrap ((n : Int) / 65536) = ((UInt8.ofNat (n / 65536)).toNat : Int) := by rw [← wrap8]; rfl
  have h3 : IntKind.u8.wrap ((n : Int) / 16777216) = ((UInt8.ofNat (n / 16777216)).toNat : Int) := by rw [← wrap8]; rfl
  unfold put4c
  generalize ((UInt8.ofNat n).toNat : Int) = b0 at h0 ⊢
  generalize ((UInt8.ofNat (n / 256)).toNat : Int) = b1 at h1 ⊢
  generalize ((UInt8.ofNat (n / 65536)).toNat : Int) = b2 at h2 ⊢
  generalize ((UInt8.ofNat (n / 16777216)).toNat : Int) = b3 at h3 ⊢
  go_enter Tryz.func66, Tryz.ntmps66
  go_wp2_with fail
  go_end0
  exact ⟨rfl, rfl⟩

set_option maxRecDepth 100000 in
set_option maxHeartbeats 1000000 in
/-- writeFixed of a uint32 -/
theorem fixed32 {B bb : Nat} {sv : Value} {xs : List UInt8} {w : World} (n : Nat) (hb : Buf w B 281 bb sv xs) (hB : B ≤ w.heap.size) (hx : xs.length ≤ 1000000) (hn : n < 4294967296) :
    Calls Tryz.prog 63 #[.iface 279 (.pointer (some ⟨bb, 0, none⟩)), .iface 114 (.int .u32 n)] w (Gave w B bb sv xs (be n 4)) := by
  have hblk := Blk.new w 5 zero8
  go_enter Tryz.func63, Tryz.ntmps63
  go_wp2_with fail
  refine (put32_0_4 n hblk hn 0 0 0 0 rfl rfl rfl rfl).mono ?_
  rintro e w1 ⟨rfl, rfl⟩
  have hk := (((hblk.set_ 0 (.int .u8 (UInt8.ofNat (n / 16777216)).toNat)).set_ 1 (.int .u8 (UInt8.ofNat (n / 65536)).toNat)).set_ 2 (.int .u8 (UInt8.ofNat (n / 256)).toNat)).set_ 3 (.int .u8 (UInt8.ofNat n).toNat)
  have hsz1 : (put4c (w.alloc (.cells zero8 5)) w.heap.size 0 n).heap.size = w.heap.size + 1 := by simp [World.setCell]
  have hbel : Below w.heap.size w (put4c (w.alloc (.cells zero8 5)) w.heap.size 0 n) :=
    (((((Below.refl _ _).alloc (Nat.le_refl _) _).setCell (by simp) _).setCell (by simp) _).setCell (by simp) _).setCell (by simp) _
  have hb1 := hb.belowAll hbel
  have hk' : Blk (put4c (w.alloc (.cells zero8 5)) w.heap.size 0 n) w.heap.size 5 _ := hk
  generalize put4c (w.alloc (.cells zero8 5)) w.heap.size 0 n = w1 at hk' hsz1 hbel hb1 ⊢
  clear hk
  have hrb : Rb w1 w1.heap.size (.slice (some ⟨w.heap.size, 0, none⟩) 4 8) (be n 4) := by
    rw [be4]
    refine ⟨_, _, rfl, by simp, fun _ => ⟨_, rfl, by simp; omega, fun j u hu => ?_⟩⟩
    have hadd : (⟨w.heap.size, 0, none⟩ : Addr).add j = ⟨w.heap.size, j, none⟩ := by unfold Addr.add; split <;> simp_all
    rw [hadd, hk'.cell]
    match j, hu with
    | 0, hu => simpa [bcells] using hu
    | 1, hu => simpa [bcells] using hu
    | 2, hu => simpa [bcells] using hu
    | 3, hu => simpa [bcells] using hu
    | j + 4, hu => simp [bcells] at hu
  go_wp2_with fail
  refine (write_any hb1 hrb (by omega) (by rw [be_len]; omega)).mono ?_
  rintro e w2 ⟨rfl, sv1, hb2, hw2⟩
  go_wp2
  go_ret
  exact ⟨rfl, sv1, hb2, (Wr.ofBelow hbel (Nat.le_refl _) _).trans hw2⟩

end Go.Proofs.YtabeppaehenefaaGreat

namespace Go.Proofs.YtabeppaehenefaaGreat
open Go.RowKit
set_option linter.unusedVariables false
attribute [local go_sem ↓] Go.wp_at_zero Go.wp_at_succ

/-- two cells stored -/
abbrev put2c (w : World) (g o n : Nat) : World :=
  (w.setCell ⟨g, o, none⟩ (.int .u8 (UInt8.ofNat (n / 256)).toNat)).setCell ⟨g, o + 1, none⟩ (.int .u8 (UInt8.ofNat n).toNat)

set_option maxRecDepth 100000 in
set_option maxHeartbeats 2000000 in
theorem put16_any {g o c : Nat} {w : World} {t : TypeId} {cs : Array Value} (n : Nat) (hg : Blk w g t cs) (hn : n < 65536) (v0 v1 : Int) (d0 : cs[o]? = some (.int .u8 v0)) (d1 : cs[o + 1]? = some (.int .u8 v1)) :
    Calls Tryz.prog 65 #[.slice (some ⟨g, o, none⟩) 2 c, .int .u16 n] w fun e w' => e = .returned (.tuple #[]) ∧ w' = put2c w g o n := by
  have c0 : w.cell? ⟨g, o, none⟩ = some (.int .u8 v0) := by rw [hg.cell]; exact d0
  have c1 : w.cell? ⟨g, o + 1, none⟩ = some (.int .u8 v1) := by rw [hg.cell]; exact d1
  clear d0 d1
  have fz := fun i => hg.frozen i
  have h0 : IntKind.u8.wrap (n : Int) = ((UInt8.ofNat n).toNat : Int) := wrap8 n
  have h1 : IntKind.u8.wrap ((n : Int) / 256) = ((UInt8.ofNat (n / 256)).toNat : Int) := by rw [← wrap8]; rfl
  unfold put2c
  generalize ((UInt8.ofNat n).toNat : Int) = b0 at h0 ⊢
  generalize ((UInt8.ofNat (n / 256)).toNat : Int) = b1 at h1 ⊢
  go_enter Tryz.func65, Tryz.ntmps65
  go_wp2_with fail
  go_end0
  exact ⟨rfl, rfl⟩

set_option maxRecDepth 100000 in
set_option maxHeartbeats 2000000 in
theorem put32_any {g o m c : Nat} {w : World} {t : TypeId} {cs : Array Value} (n : Nat) (hg : Blk w g t cs) (hn : n < 4294967296) (hm : 4 ≤ m) (v0 v1 v2 v3 : Int) (d0 : cs[o]? = some (.int .u8 v0)) (d1 : cs[o + 1]? = some (.int .u8 v1)) (d2 : cs[o + 2]? = some (.int .u8 v2)) (d3 : cs[o + 3]? = some (.int .u8 v3)) :
    Calls Tryz.prog 66 #[.slice (some ⟨g, o, none⟩) m c, .int .u32 n] w fun e w' => e = .returned (.tuple #[]) ∧ w' = put4c w g o n := by
  have c0 : w.cell? ⟨g, o, none⟩ = some (.int .u8 v0) := by rw [hg.cell]; exact d0
  have c1 : w.cell? ⟨g, o + 1, none⟩ = some (.int .u8 v1) := by rw [hg.cell]; exact d1
  have c2 : w.cell? ⟨g, o + 2, none⟩ = some (.int .u8 v2) := by rw [hg.cell]; exact d2
  have c3 : w.cell? ⟨g, o + 3, none⟩ = some (.int .u8 v3) := by rw [hg.cell]; exact d3
  clear d0 d1 d2 d3
  have fz := fun i => hg.frozen i
  have h0 : IntKind.u8.wrap (n : Int) = ((UInt8.ofNat n).toNat : Int) := wrap8 n
  have h1 : IntKind.u8.wrap ((n : Int) / 256) = ((UInt8.ofNat (n / 256)).toNat : Int) := by rw [← wrap8]; rfl
  have h2 : IntKind.u8.wrap ((n : Int) / 65536) = ((UInt8.ofNat (n / 65536)).toNat : Int) := by rw [← wrap8]; rfl
  have h3 : IntKind.u8.wrap ((n : Int) / 16777216) = ((UInt8.ofNat (n / 16777216)).toNat : Int) := by rw [← wrap8]; rfl
  have m0 : 0 < m := by omega
  have m1 : 1 < m := by omega
  have m2 : 2 < m := by omega
  have m3 : 3 < m := by omega
  unfold put4c
  generalize ((UInt8.ofNat n).toNat : Int) = b0 at h0 ⊢
  generalize ((UInt8.ofNat (n / 256)).toNat : Int) = b1 at h1 ⊢
  generalize ((UInt8.ofNat (n / 65536)).toNat : Int) = b2 at h2 ⊢
  generalize ((UInt8.ofNat (n / 16777216)).toNat : Int) = b3 at h3 ⊢
  go_enter Tryz.func66, Tryz.ntmps66
  go_wp2_with fail
  go_end0
  exact ⟨rfl, rfl⟩

end Go.Proofs.YtabeppaehenefaaGreat

namespace Go.Proofs.YtabeppaehenefaaGreat
open Go.RowKit
set_option linter.unusedVariables false
attribute [local go_sem ↓] Go.wp_at_zero Go.wp_at_succ

/-- the cells behind four stores -/
abbrev put4a (cs : Array Value) (o n : Nat) : Array Value :=
  (((cs.setIfInBounds o (.int .u8 (UInt8.ofNat (n / 16777216)).toNat)).setIfInBounds (o + 1) (.int .u8 (UInt8.ofNat (n / 65536)).toNat)).setIfInBounds (o + 2) (.int .u8 (UInt8.ofNat (n / 256)).toNat)).setIfInBounds (o + 3) (.int .u8 (UInt8.ofNat n).toNat)
theorem Blk.put4 {w : World} {g : Nat} {t : TypeId} {cs : Array Value} (h : Blk w g t cs) (o n : Nat) : Blk (put4c w g o n) g t (put4a cs o n) :=
  (((h.set_ _ _).set_ _ _).set_ _ _).set_ _ _
theorem put4a_far (cs : Array Value) (o n j : Nat) (h : j < o ∨ o + 3 < j) : (put4a cs o n)[j]? = cs[j]? := by
  unfold put4a
  rw [Array.getElem?_setIfInBounds_ne (by omega), Array.getElem?_setIfInBounds_ne (by omega), Array.getElem?_setIfInBounds_ne (by omega), Array.getElem?_setIfInBounds_ne (by omega)]
abbrev put2a (cs : Array Value) (o n : Nat) : Array Value :=
  (cs.setIfInBounds o (.int .u8 (UInt8.ofNat (n / 256)).toNat)).setIfInBounds (o + 1) (.int .u8 (UInt8.ofNat n).toNat)
theorem Blk.put2 {w : World} {g : Nat} {t : TypeId} {cs : Array Value} (h : Blk w g t cs) (o n : Nat) : Blk (put2c w g o n) g t (put2a cs o n) :=
  (h.set_ _ _).set_ _ _

set_option maxRecDepth 100000 in
set_option maxHeartbeats 1000000 in
/-- bePutUint64 -/
theorem put64_any {g o c : Nat} {w : World} {t : TypeId} {cs : Array Value} (n : Nat) (hg : Blk w g t cs) (hn : n < 18446744073709551616) (hc : 8 ≤ c)
    (v0 v1 v2 v3 v4 v5 v6 v7 : Int) (d0 : cs[o]? = some (.int .u8 v0)) (d1 : cs[o + 1]? = some (.int .u8 v1)) (d2 : cs[o + 2]? = some (.int .u8 v2)) (d3 : cs[o + 3]? = some (.int .u8 v3))
    (d4 : cs[o + 4]? = some (.int .u8 v4)) (d5 : cs[o + 5]? = some (.int .u8 v5)) (d6 : cs[o + 6]? = some (.int .u8 v6)) (d7 : cs[o + 7]? = some (.int .u8 v7)) :
    Calls Tryz.prog 67 #[.slice (some ⟨g, o, none⟩) 8 c, .int .u64 n] w fun e w' => e = .returned (.tuple #[]) ∧ w' = put4c (put4c w g o (n / 4294967296)) g (o + 4) (n % 4294967296) := by
  have c7 : w.cell? ⟨g, o + 7, none⟩ = some (.int .u8 v7) := by rw [hg.cell]; exact d7
  have h1 : IntKind.u32.wrap ((n : Int) / 4294967296) = ((n / 4294967296 : Nat) : Int) := by
    simp only [IntKind.wrap, IntKind.bits, IntKind.signed]
    simp
    omega
  have h2 : IntKind.u32.wrap (n : Int) = ((n % 4294967296 : Nat) : Int) := by
    simp only [IntKind.wrap, IntKind.bits, IntKind.signed]
    simp
  have hq : n / 4294967296 < 4294967296 := by omega
  have hr : n % 4294967296 < 4294967296 := by omega
  have p1 := put32_any (g := g) (o := o) (m := 8) (c := c) (n / 4294967296) hg hq (by omega) v0 v1 v2 v3 d0 d1 d2 d3
  have hk := hg.put4 o (n / 4294967296)
  have p2 := put32_any (g := g) (o := o + 4) (m := 4) (c := c - 4) (n % 4294967296) hk hr (by omega) v4 v5 v6 v7 (by rw [put4a_far _ _ _ _ (by omega)]; exact d4) (by rw [put4a_far _ _ _ _ (by omega)]; exact d5) (by rw [put4a_far _ _ _ _ (by omega)]; exact d6) (by rw [put4a_far _ _ _ _ (by omega)]; exact d7)
  generalize n / 4294967296 = hi at h1 hq p1 hk p2 ⊢
  generalize n % 4294967296 = lo at h2 hr p2 ⊢
  have P1 := Lib.hid p1
  have P2 := Lib.hid p2
  have hc1 : 4 < c := by omega
  have hc2 : ¬ (4 = c) := by omega
  have hc3 : ¬ (c = 4) := by omega
  have hc4 : 4 ≤ c := by omega
  clear p1 p2 hk hg d0 d1 d2 d3 d4 d5 d6 d7
  go_enter Tryz.func67, Tryz.ntmps67
  go_wp2_with fail
  refine P1.out.mono ?_
  rintro e w1 ⟨rfl, hw⟩
  rw [← hw] at P2
  have H1 := Lib.hid hw
  clear hw c7 P1
  go_wp2_with fail
  refine P2.out.mono ?_
  rintro e w2 ⟨rfl, hw⟩
  have Hw := Lib.hid hw
  clear hw P2
  go_wp2
  go_end0
  exact ⟨rfl, by rw [Hw.out, H1.out]⟩

theorem ofNat8 {a b : Nat} (h : a % 256 = b % 256) : UInt8.ofNat a = UInt8.ofNat b := by
  apply UInt8.toNat_inj.1
  rw [toNat_ofNat8, toNat_ofNat8, h]
theorem be8_split (n : Nat) : be n 8 = be (n / 4294967296) 4 ++ be (n % 4294967296) 4 := by
  rw [be8, be4, be4, ofNat8 (a := n % 4294967296) (b := n) (by omega), ofNat8 (a := n % 4294967296 / 256) (b := n / 256) (by omega), ofNat8 (a := n % 4294967296 / 65536) (b := n / 65536) (by omega),
    ofNat8 (a := n % 4294967296 / 16777216) (b := n / 16777216) (by omega), Nat.div_div_eq_div_mul, Nat.div_div_eq_div_mul, Nat.div_div_eq_div_mul]
  rfl
theorem put4a_zero (a b c d : Value) (l : List Value) (n : Nat) (pre : List Value) : put4a (pre ++ (a :: b :: c :: d :: l)).toArray pre.length n = (pre ++ bcells (be n 4) ++ l).toArray := by
  rw [be4]
  unfold put4a
  apply Array.toList_inj.1
  simp [bcells]
theorem cells8 (n : Nat) : put4a (put4a zero8 0 (n / 4294967296)) (0 + 4) (n % 4294967296) = (bcells (be n 8)).toArray := by
  have h1 := put4a_zero (.int .u8 0) (.int .u8 0) (.int .u8 0) (.int .u8 0) [.int .u8 0, .int .u8 0, .int .u8 0, .int .u8 0] (n / 4294967296) []
  have h2 := put4a_zero (.int .u8 0) (.int .u8 0) (.int .u8 0) (.int .u8 0) [] (n % 4294967296) (bcells (be (n / 4294967296) 4))
  have e : (bcells (be (n / 4294967296) 4)).length = 0 + 4 := by rw [bcells_length, be_len]
  simp only [List.nil_append, List.length_nil] at h1
  rw [e, List.append_nil] at h2
  rw [be8_split, bcells_append, ← h2, ← h1]

set_option maxRecDepth 100000 in
set_option maxHeartbeats 1000000 in
/-- writeFixed of a uint64 -/
theorem fixed64 {B bb : Nat} {sv : Value} {xs : List UInt8} {w : World} (n : Nat) (hb : Buf w B 281 bb sv xs) (hB : B ≤ w.heap.size) (hx : xs.length ≤ 1000000) (hn : n < 18446744073709551616) :
    Calls Tryz.prog 63 #[.iface 279 (.pointer (some ⟨bb, 0, none⟩)), .iface 38 (.int .u64 n)] w (Gave w B bb sv xs (be n 8)) := by
  have hblk := Blk.new w 5 zero8
  have p1 := put64_any (o := 0) (c := 8) n hblk hn (by omega) 0 0 0 0 0 0 0 0 rfl rfl rfl rfl rfl rfl rfl rfl
  have hk := (hblk.put4 0 (n / 4294967296)).put4 (0 + 4) (n % 4294967296)
  have hsz1 : (put4c (put4c (w.alloc (.cells zero8 5)) w.heap.size 0 (n / 4294967296)) w.heap.size (0 + 4) (n % 4294967296)).heap.size = w.heap.size + 1 := by simp [World.setCell]
  have hbel : Below w.heap.size w (put4c (put4c (w.alloc (.cells zero8 5)) w.heap.size 0 (n / 4294967296)) w.heap.size (0 + 4) (n % 4294967296)) :=
    (((((((((Below.refl _ _).alloc (Nat.le_refl _) _).setCell (by simp) _).setCell (by simp) _).setCell (by simp) _).setCell (by simp) _).setCell (by simp) _).setCell (by simp) _).setCell (by simp) _).setCell (by simp) _
  have hb1 := hb.belowAll hbel
  obtain ⟨w9, hw9⟩ : ∃ w9, w9 = put4c (put4c (w.alloc (.cells zero8 5)) w.heap.size 0 (n / 4294967296)) w.heap.size (0 + 4) (n % 4294967296) := ⟨_, rfl⟩
  rw [← hw9] at p1 hk hsz1 hbel hb1
  clear hw9
  have P1 := Lib.hid p1
  have hrb : Rb w9 w9.heap.size (.slice (some ⟨w.heap.size, 0, none⟩) 8 8) (be n 8) := by
    rw [cells8 n] at hk
    have := Rb.of_blk (c := 8) hk (B := w9.heap.size) (by omega) (by rw [be_len]; omega)
    rwa [be_len] at this
  clear p1 hk
  go_enter Tryz.func63, Tryz.ntmps63
  go_wp2_with fail
  refine P1.out.mono ?_
  rintro e w1 ⟨rfl, rfl⟩
  go_wp2_with fail
  refine (write_any hb1 hrb (by omega) (by rw [be_len]; omega)).mono ?_
  rintro e w2 ⟨rfl, sv1, hb2, hw2⟩
  go_wp2
  go_ret
  exact ⟨rfl, sv1, hb2, (Wr.ofBelow hbel (Nat.le_refl _) _).trans hw2⟩

end Go.Proofs.YtabeppaehenefaaGreat

namespace Go.Proofs.YtabeppaehenefaaGreat
open Go.RowKit
set_option linter.unusedVariables false
attribute [local go_sem ↓] Go.wp_at_zero Go.wp_at_succ

/-- the bytes of a string, in a new block -/
theorem conv_bytes (w : World) (s : ByteArray) (src : TypeId) (hs : Tryz.prog.underlying src = some .string) : ∃ c w1, (convert src 32 (.string s)).run Tryz.prog w = .ok (.slice (some ⟨w.heap.size, 0, none⟩) s.size c) w1 ∧ s.size ≤ c ∧
    Rb w1 w1.heap.size (.slice (some ⟨w.heap.size, 0, none⟩) s.size c) s.data.toList ∧ Below w.heap.size w w1 ∧ w1.heap.size = w.heap.size + 1 ∧ (∀ j, j < s.size → w1.cell? ⟨w.heap.size, j, none⟩ = some (.int .u8 (s.data.toList.getD j 0).toNat)) := by
  have hge := grownCap_ge w s.size 0 5
  refine ⟨_, _, Lib.run_convert_string_bytes w src 32 5 s hs Tryz.underlying32 under5, hge, ?_, ?_, Lib.bytesWorld_size w 5 s, fun j hj => Lib.bytesWorld_cell w 5 s j hj⟩
  · refine ⟨_, _, by rw [size_toList], by rw [size_toList]; exact hge, fun _ => ⟨_, rfl, by rw [Lib.bytesWorld_size]; exact Nat.lt_succ_self _, fun j u hu => ?_⟩⟩
    have hj : j < s.size := by
      have := (List.getElem?_eq_some_iff.1 hu).1
      rwa [bcells_length, size_toList] at this
    have hadd : (⟨w.heap.size, 0, none⟩ : Addr).add j = ⟨w.heap.size, j, none⟩ := by unfold Addr.add; split <;> simp_all
    rw [hadd, Lib.bytesWorld_cell w 5 s j hj, ← hu]
    have hj' : j < s.data.size := hj
    have hg : s.data[j]? = some s.data[j] := Array.getElem?_eq_getElem hj'
    simp [bcells, List.getD, hg]
  · refine ⟨rfl, rfl, rfl, by rw [Lib.bytesWorld_size]; omega, fun k hk => Lib.bytesWorld_at_old w 5 s k hk⟩

@[go_sem] theorem nil_write (a : Addr) (w : World) : (nilAhead 480 279 (.pointer (some a)) "Write").run Tryz.prog w = .ok (some false) w := by kernel_rfl

set_option maxRecDepth 100000 in
set_option maxHeartbeats 1000000 in
/-- writeShortstr -/
theorem wshort {B bb : Nat} {sv : Value} {xs : List UInt8} {w : World} (s : ByteArray) (hb : Buf w B 281 bb sv xs) (hB : B ≤ w.heap.size) (hx : xs.length ≤ 900000) (hs : s.size ≤ 255) :
    Calls Tryz.prog 77 #[.iface 279 (.pointer (some ⟨bb, 0, none⟩)), .string s] w (Gave w B bb sv xs (UInt8.ofNat s.size :: s.data.toList)) := by
  obtain ⟨c, w1, hrun, hc, hrb, hbel, hsz, _⟩ := conv_bytes w s 9 Tryz.underlying9
  have hb1 := hb.belowAll hbel
  have h8 : IntKind.u8.wrap (s.size : Int) = ((UInt8.ofNat s.size).toNat : Int) := wrap8 s.size
  have h8' : ((UInt8.ofNat s.size).toNat : Int) = (s.size : Int) := by rw [toNat_ofNat8]; omega
  rw [h8'] at h8
  have hne : ¬ (w.heap.size = bb) := by have := hb.lt; omega
  have hnr : ∀ g, Value.ownBlock (.slice (some ⟨w.heap.size, 0, none⟩) s.size c) = some g → some g ≠ sv.ownBlock := fun g hg e => by
    have := (hb.row_lt g e.symm).2
    simp [Value.ownBlock] at hg
    omega
  have f8 := fixed8 (UInt8.ofNat s.size) hb1 (by omega) (by omega)
  rw [h8'] at f8
  have F8 := Lib.hid f8
  have HR := Lib.hid hrb
  have HS := Lib.hid hsz
  have HN := Lib.hid hnr
  clear f8 hrb h8' hsz hnr
  have hs2 : (s.size : Int) ≤ (c : Int) := by omega
  go_enter Tryz.func77, Tryz.ntmps77
  go_wp2_with fail
  refine F8.out.mono ?_
  rintro e w2 ⟨rfl, sv2, hb2, hw2⟩
  have hrb2 := HR.out.wr hw2 (Nat.le_refl _) (by simp [Value.ownBlock]; exact hne) HN.out
  have hsz2 := hw2.size
  have hx2 : (xs ++ [UInt8.ofNat s.size]).length = xs.length + 1 := by simp
  have hl := size_toList s
  have HS2 := Lib.hid (show B ≤ w2.heap.size from by have := HS.out; omega)
  have hwr := write_any hb2.drew (hrb2.more hsz2).drew HS2.out (by rw [hx2, hl]; omega)
  have HW := Lib.hid hwr
  clear hwr hrb2 hl hx2 hrun hsz2
  go_wp2_with fail
  go_region_with (refine HW.out.mono ?_; rintro e w3 ⟨rfl, sv3, hb3, hw3⟩)
  all_goals
    go_wp2
    go_ret
    refine ⟨rfl, sv3, ?_, ((Wr.ofBelow hbel (Nat.le_refl _) _).trans hw2).drew.trans hw3⟩
    rw [List.append_assoc] at hb3
    exact hb3

set_option maxRecDepth 100000 in
set_option maxHeartbeats 1000000 in
/-- writeLongstr -/
theorem wlong {B bb : Nat} {sv : Value} {xs : List UInt8} {w : World} (s : ByteArray) (hb : Buf w B 281 bb sv xs) (hB : B ≤ w.heap.size) (hx : xs.length ≤ 900000) (hs : s.size ≤ 1000000) :
    Calls Tryz.prog 75 #[.iface 279 (.pointer (some ⟨bb, 0, none⟩)), .string s] w (Gave w B bb sv xs (be s.size 4 ++ s.data.toList)) := by
  obtain ⟨c, w1, hrun, hc, hrb, hbel, hsz, _⟩ := conv_bytes w s 9 Tryz.underlying9
  have hb1 := hb.belowAll hbel
  have h8 : IntKind.u32.wrap (s.size : Int) = (s.size : Int) := by
    simp only [IntKind.wrap, IntKind.bits, IntKind.signed]
    simp
    omega
  have hne : ¬ (w.heap.size = bb) := by have := hb.lt; omega
  have hnr : ∀ g, Value.ownBlock (.slice (some ⟨w.heap.size, 0, none⟩) s.size c) = some g → some g ≠ sv.ownBlock := fun g hg e => by
    have := (hb.row_lt g e.symm).2
    simp [Value.ownBlock] at hg
    omega
  have f8 := fixed32 s.size hb1 (by omega) (by omega) (by omega)
  have F8 := Lib.hid f8
  have HR := Lib.hid hrb
  have HS := Lib.hid hsz
  have HN := Lib.hid hnr
  clear f8 hrb hsz hnr
  have hs2 : (s.size : Int) ≤ (c : Int) := by omega
  go_enter Tryz.func75, Tryz.ntmps75
  go_wp2_with fail
  refine F8.out.mono ?_
  rintro e w2 ⟨rfl, sv2, hb2, hw2⟩
  have hrb2 := HR.out.wr hw2 (Nat.le_refl _) (by simp [Value.ownBlock]; exact hne) HN.out
  have hsz2 := hw2.size
  have hx2 : (xs ++ be s.size 4).length = xs.length + 4 := by rw [List.length_append, be_len]
  have hl := size_toList s
  have HS2 := Lib.hid (show B ≤ w2.heap.size from by have := HS.out; omega)
  have hwr := write_any hb2.drew (hrb2.more hsz2).drew HS2.out (by rw [hx2, hl]; omega)
  have HW := Lib.hid hwr
  clear hwr hrb2 hl hx2 hrun hsz2
  go_wp2_with fail
  go_region_with (refine HW.out.mono ?_; rintro e w3 ⟨rfl, sv3, hb3, hw3⟩)
  all_goals
    go_wp2
    go_ret
    refine ⟨rfl, sv3, ?_, ((Wr.ofBelow hbel (Nat.le_refl _) _).trans hw2).drew.trans hw3⟩
    rw [List.append_assoc] at hb3
    exact hb3

end Go.Proofs.YtabeppaehenefaaGreat
