/-
  FnMethod: the writers of the methods' fields, as the methods' write functions call them.
-/
import Derived.Test.YtabeppaehenefaaGreatId
namespace Go.Proofs.YtabeppaehenefaaGreat
open Go.RowKit

/-- bits that share a byte, the first one the lowest -/
def bitv : List Bool → Nat
  | [] => 0
  | b :: r => (if b then 1 else 0) + 2 * bitv r
@[go_sem] theorem or_0_1 : bits .or .u8 0 1 = 1 := by kernel_rfl
@[go_sem] theorem or_0_2 : bits .or .u8 0 2 = 2 := by kernel_rfl
@[go_sem] theorem or_1_2 : bits .or .u8 1 2 = 3 := by kernel_rfl
@[go_sem] theorem or_0_4 : bits .or .u8 0 4 = 4 := by kernel_rfl
@[go_sem] theorem or_1_4 : bits .or .u8 1 4 = 5 := by kernel_rfl
@[go_sem] theorem or_2_4 : bits .or .u8 2 4 = 6 := by kernel_rfl
@[go_sem] theorem or_3_4 : bits .or .u8 3 4 = 7 := by kernel_rfl
@[go_sem] theorem or_0_8 : bits .or .u8 0 8 = 8 := by kernel_rfl
@[go_sem] theorem or_1_8 : bits .or .u8 1 8 = 9 := by kernel_rfl
@[go_sem] theorem or_2_8 : bits .or .u8 2 8 = 10 := by kernel_rfl
@[go_sem] theorem or_3_8 : bits .or .u8 3 8 = 11 := by kernel_rfl
@[go_sem] theorem or_4_8 : bits .or .u8 4 8 = 12 := by kernel_rfl
@[go_sem] theorem or_5_8 : bits .or .u8 5 8 = 13 := by kernel_rfl
@[go_sem] theorem or_6_8 : bits .or .u8 6 8 = 14 := by kernel_rfl
@[go_sem] theorem or_7_8 : bits .or .u8 7 8 = 15 := by kernel_rfl
@[go_sem] theorem or_0_16 : bits .or .u8 0 16 = 16 := by kernel_rfl
@[go_sem] theorem or_1_16 : bits .or .u8 1 16 = 17 := by kernel_rfl
@[go_sem] theorem or_2_16 : bits .or .u8 2 16 = 18 := by kernel_rfl
@[go_sem] theorem or_3_16 : bits .or .u8 3 16 = 19 := by kernel_rfl
@[go_sem] theorem or_4_16 : bits .or .u8 4 16 = 20 := by kernel_rfl
@[go_sem] theorem or_5_16 : bits .or .u8 5 16 = 21 := by kernel_rfl
@[go_sem] theorem or_6_16 : bits .or .u8 6 16 = 22 := by kernel_rfl
@[go_sem] theorem or_7_16 : bits .or .u8 7 16 = 23 := by kernel_rfl
@[go_sem] theorem or_8_16 : bits .or .u8 8 16 = 24 := by kernel_rfl
@[go_sem] theorem or_9_16 : bits .or .u8 9 16 = 25 := by kernel_rfl
@[go_sem] theorem or_10_16 : bits .or .u8 10 16 = 26 := by kernel_rfl
@[go_sem] theorem or_11_16 : bits .or .u8 11 16 = 27 := by kernel_rfl
@[go_sem] theorem or_12_16 : bits .or .u8 12 16 = 28 := by kernel_rfl
@[go_sem] theorem or_13_16 : bits .or .u8 13 16 = 29 := by kernel_rfl
@[go_sem] theorem or_14_16 : bits .or .u8 14 16 = 30 := by kernel_rfl
@[go_sem] theorem or_15_16 : bits .or .u8 15 16 = 31 := by kernel_rfl

section
variable {B bb : Nat} {sv : Value} {xs : List UInt8} {w : World}
theorem fixed8n (n : Nat) (hb : Buf w B 281 bb sv xs) (hB : B ≤ w.heap.size) (hx : xs.length ≤ 1000000) (hn : n < 256) :
    Calls Tryz.prog 63 #[.iface 279 (.pointer (some ⟨bb, 0, none⟩)), .iface 5 (.int .u8 n)] w (Gave w B bb sv xs (be n 1)) := by
  have h := fixed8 (UInt8.ofNat n) hb hB hx
  have e : (UInt8.ofNat n).toNat = n := by rw [toNat_ofNat8]; omega
  rw [e] at h
  have e2 : be n 1 = [UInt8.ofNat n] := by simp [be1]
  rw [e2]
  exact h
theorem wshortn (t : ByteArray) (hb : Buf w B 281 bb sv xs) (hB : B ≤ w.heap.size) (hx : xs.length ≤ 900000) (hs : t.size ≤ 255) :
    Calls Tryz.prog 77 #[.iface 279 (.pointer (some ⟨bb, 0, none⟩)), .string t] w (Gave w B bb sv xs (be t.size 1 ++ t.data.toList)) := by
  have e2 : be t.size 1 ++ t.data.toList = UInt8.ofNat t.size :: t.data.toList := by simp [be1]
  rw [e2]
  exact wshort t hb hB hx hs
theorem wlongn (t : ByteArray) (hb : Buf w B 281 bb sv xs) (hB : B ≤ w.heap.size) (hx : xs.length ≤ 900000) (hs : t.size ≤ 1000) :
    Calls Tryz.prog 75 #[.iface 279 (.pointer (some ⟨bb, 0, none⟩)), .string t] w (Gave w B bb sv xs (be t.size 4 ++ t.data.toList)) := wlong t hb hB hx (by omega)
theorem wshort0 (hb : Buf w B 281 bb sv xs) (hB : B ≤ w.heap.size) (hx : xs.length ≤ 900000) :
    Calls Tryz.prog 77 #[.iface 279 (.pointer (some ⟨bb, 0, none⟩)), .string ⟨#[]⟩] w (Gave w B bb sv xs (be 0 1 ++ [])) := wshortn ⟨#[]⟩ hb hB hx (by decide)
theorem wlong0 (hb : Buf w B 281 bb sv xs) (hB : B ≤ w.heap.size) (hx : xs.length ≤ 900000) :
    Calls Tryz.prog 75 #[.iface 279 (.pointer (some ⟨bb, 0, none⟩)), .string ⟨#[]⟩] w (Gave w B bb sv xs (be 0 4 ++ [])) := wlongn ⟨#[]⟩ hb hB hx (by decide)
/-- a block below the writer's own stays -/
theorem Wr.blkB {w1 : World} {r1 : Option Nat} {T : TypeId} {g : Nat} {t : TypeId} {cs : Array Value} (hw : Wr w w1 bb sv.ownBlock r1) (hm : Blk w g t cs) (hg : g < B) (hb : Buf w B T bb sv xs) : Blk w1 g t cs :=
  hw.blk hm (by have := hb.ge; omega) (fun e => by have := (hb.row_lt g e.symm).1; omega)
theorem wtabn {w1 : World} {sv1 : Value} {xs1 : List UInt8} {fs : Fs} {m : Nat} (hg : fs.good none) (hk : fs.ok) (hT : TabV w (fun g => g < B) fs m) (hw : Wr w w1 bb sv.ownBlock sv1.ownBlock) (hb : Buf w B 281 bb sv xs) (hB : B ≤ w.heap.size)
    (hb1 : Buf w1 B 281 bb sv1 xs1) (hB1 : B ≤ w1.heap.size) (he : fs.enc.length ≤ 20000) (hx : xs1.length ≤ 100000) :
    Calls Tryz.prog 74 #[.iface 279 (.pointer (some ⟨bb, 0, none⟩)), .map (some m)] w1 (Gave w1 B bb sv1 xs1 (tab fs)) :=
  writeTable_any hg hk (hT.keep (q := fun g => g < B) (fun g hg => hw.block g (by omega) (by have := hb.ge; omega) (fun e => by have := (hb.row_lt g e.symm).1; omega)) (fun _ h => h)) hb1 hB1
    (fun g hg => ⟨by omega, by have := hb1.ge; omega, fun e => by have := (hb1.row_lt g e.symm).1; omega⟩) (by omega) (by omega)
theorem Gave.nil (hb : Buf w B 281 bb sv xs) : Gave w B bb sv xs [] (.returned .nilIface) w := ⟨rfl, sv, by simpa using hb, Wr.refl _ _ _⟩
end

end Go.Proofs.YtabeppaehenefaaGreat
