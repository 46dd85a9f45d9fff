/-
  FnMethod: the methods' write functions, part 1 (printed by a program).
-/
import Derived.Test.YtabeppaehenefaaGreatNa
namespace Go.Proofs.YtabeppaehenefaaGreat
open Go.RowKit
attribute [local go_sem ↓] Go.wp_at_zero Go.wp_at_succ
set_option linter.unusedVariables false

set_option maxRecDepth 100000 in
set_option maxHeartbeats 4000000 in
/-- (*connectionStart).write -/
theorem wr_connectionStart {B bb g : Nat} {sv : Value} {xs : List UInt8} {w : World} (ex : List Value) (n0 : Nat) (n1 : Nat) (m2 : Nat) (f2 : Fs) (t3 : ByteArray) (t4 : ByteArray) (hm : Blk w g 103 (.int .u8 n0 :: .int .u8 n1 :: .map (some m2) :: .string t3 :: .string t4 :: ex).toArray) (hg : g < B) (hb : Buf w B 281 bb sv xs) (hB : B ≤ w.heap.size) (hx : xs.length ≤ 100) (h0 : n0 < 256) (h1 : n1 < 256) (h2 : TabV w (fun g => g < B) f2 m2) (g2 : f2.good none) (k2 : f2.ok) (e2 : f2.enc.length ≤ 20000) (h3 : t3.size ≤ 1000) (h4 : t4.size ≤ 1000) :
    Calls Tryz.prog 73 #[.pointer (some ⟨g, 0, none⟩), .iface 279 (.pointer (some ⟨bb, 0, none⟩))] w (Gave w B bb sv xs (be n0 1 ++ (be n1 1 ++ (tab f2 ++ ((be t3.size 4 ++ t3.data.toList) ++ ((be t4.size 4 ++ t4.data.toList))))))) := by
  have HT2 := Lib.hid h2
  have HG2 := Lib.hid g2
  have HK2 := Lib.hid k2
  clear h2 g2 k2
  have HM0 := Lib.hid hm
  have HW0 := Lib.hid (Wr.refl w bb sv.ownBlock)
  have HB0 := Lib.hid hb
  have HS0 := Lib.hid hB
  clear hm hb hB
  go_enter Tryz.func73, Tryz.ntmps73
  have c0 : w.cell? ⟨g, 0, none⟩ = some (.int .u8 n0) := by rw [HM0.out.cell]; rfl
  have HC0 := Lib.hid (fixed8n n0 HB0.out HS0.out (by omega) h0)
  go_wp2_with fail
  refine HC0.out.mono ?_
  clear HC0
  rintro e w1 ⟨rfl, sv1, hb, hw⟩
  have HM1 := Lib.hid (hw.blkB HM0.out hg HB0.out)
  have HW1 := Lib.hid (HW0.out.trans hw)
  have HS1 := Lib.hid (Nat.le_trans HS0.out hw.size)
  have HB1 := Lib.hid hb
  clear hw hb c0
  have c1 : w1.cell? ⟨g, 1, none⟩ = some (.int .u8 n1) := by rw [HM1.out.cell]; rfl
  have HC1 := Lib.hid (fixed8n n1 HB1.out HS1.out (by simp [be_len]; omega) h1)
  go_wp2_with fail
  refine HC1.out.mono ?_
  clear HC1
  rintro e w2 ⟨rfl, sv2, hb, hw⟩
  have HM2 := Lib.hid (hw.blkB HM1.out hg HB1.out)
  have HW2 := Lib.hid (HW1.out.trans hw)
  have HS2 := Lib.hid (Nat.le_trans HS1.out hw.size)
  have HB2 := Lib.hid hb
  clear hw hb c1
  have c2 : w2.cell? ⟨g, 2, none⟩ = some (.map (some m2)) := by rw [HM2.out.cell]; rfl
  have HC2 := Lib.hid (wtabn HG2.out HK2.out (HT2.out) HW2.out HB0.out HS0.out HB2.out HS2.out e2 (by simp [be_len]; omega))
  go_wp2_with fail
  refine HC2.out.mono ?_
  clear HC2
  rintro e w3 ⟨rfl, sv3, hb, hw⟩
  have HM3 := Lib.hid (hw.blkB HM2.out hg HB2.out)
  have HW3 := Lib.hid (HW2.out.trans hw)
  have HS3 := Lib.hid (Nat.le_trans HS2.out hw.size)
  have HB3 := Lib.hid hb
  clear hw hb c2
  have c3 : w3.cell? ⟨g, 3, none⟩ = some (.string t3) := by rw [HM3.out.cell]; rfl
  have HC3 := Lib.hid (wlongn t3 HB3.out HS3.out (by simp [be_len, tab]; omega) h3)
  go_wp2_with fail
  refine HC3.out.mono ?_
  clear HC3
  rintro e w4 ⟨rfl, sv4, hb, hw⟩
  have HM4 := Lib.hid (hw.blkB HM3.out hg HB3.out)
  have HW4 := Lib.hid (HW3.out.trans hw)
  have HS4 := Lib.hid (Nat.le_trans HS3.out hw.size)
  have HB4 := Lib.hid hb
  clear hw hb c3
  have c4 : w4.cell? ⟨g, 4, none⟩ = some (.string t4) := by rw [HM4.out.cell]; rfl
  have HC4 := Lib.hid (wlongn t4 HB4.out HS4.out (by simp [be_len, tab]; omega) h4)
  go_wp2_with fail
  refine HC4.out.mono ?_
  clear HC4
  rintro e w5 ⟨rfl, sv5, hb, hw⟩
  have HM5 := Lib.hid (hw.blkB HM4.out hg HB4.out)
  have HW5 := Lib.hid (HW4.out.trans hw)
  have HS5 := Lib.hid (Nat.le_trans HS4.out hw.size)
  have HB5 := Lib.hid hb
  clear hw hb c4
  go_wp2
  go_ret
  exact ⟨rfl, sv5, by have := HB5.out; simpa using this, HW5.out⟩

set_option maxRecDepth 100000 in
set_option maxHeartbeats 4000000 in
/-- (*connectionStartOk).write -/
theorem wr_connectionStartOk {B bb g : Nat} {sv : Value} {xs : List UInt8} {w : World} (ex : List Value) (m0 : Nat) (f0 : Fs) (t1 : ByteArray) (t2 : ByteArray) (t3 : ByteArray) (hm : Blk w g 106 (.map (some m0) :: .string t1 :: .string t2 :: .string t3 :: ex).toArray) (hg : g < B) (hb : Buf w B 281 bb sv xs) (hB : B ≤ w.heap.size) (hx : xs.length ≤ 100) (h0 : TabV w (fun g => g < B) f0 m0) (g0 : f0.good none) (k0 : f0.ok) (e0 : f0.enc.length ≤ 20000) (h1 : t1.size ≤ 255) (h2 : t2.size ≤ 1000) (h3 : t3.size ≤ 255) :
    Calls Tryz.prog 109 #[.pointer (some ⟨g, 0, none⟩), .iface 279 (.pointer (some ⟨bb, 0, none⟩))] w (Gave w B bb sv xs (tab f0 ++ ((be t1.size 1 ++ t1.data.toList) ++ ((be t2.size 4 ++ t2.data.toList) ++ ((be t3.size 1 ++ t3.data.toList)))))) := by
  have HT0 := Lib.hid h0
  have HG0 := Lib.hid g0
  have HK0 := Lib.hid k0
  clear h0 g0 k0
  have HM0 := Lib.hid hm
  have HW0 := Lib.hid (Wr.refl w bb sv.ownBlock)
  have HB0 := Lib.hid hb
  have HS0 := Lib.hid hB
  clear hm hb hB
  go_enter Tryz.func109, Tryz.ntmps109
  have c0 : w.cell? ⟨g, 0, none⟩ = some (.map (some m0)) := by rw [HM0.out.cell]; rfl
  have HC0 := Lib.hid (wtabn HG0.out HK0.out (HT0.out) HW0.out HB0.out HS0.out HB0.out HS0.out e0 (by omega))
  go_wp2_with fail
  refine HC0.out.mono ?_
  clear HC0
  rintro e w1 ⟨rfl, sv1, hb, hw⟩
  have HM1 := Lib.hid (hw.blkB HM0.out hg HB0.out)
  have HW1 := Lib.hid (HW0.out.trans hw)
  have HS1 := Lib.hid (Nat.le_trans HS0.out hw.size)
  have HB1 := Lib.hid hb
  clear hw hb c0
  have c1 : w1.cell? ⟨g, 1, none⟩ = some (.string t1) := by rw [HM1.out.cell]; rfl
  have HC1 := Lib.hid (wshortn t1 HB1.out HS1.out (by simp [be_len, tab]; omega) h1)
  go_wp2_with fail
  refine HC1.out.mono ?_
  clear HC1
  rintro e w2 ⟨rfl, sv2, hb, hw⟩
  have HM2 := Lib.hid (hw.blkB HM1.out hg HB1.out)
  have HW2 := Lib.hid (HW1.out.trans hw)
  have HS2 := Lib.hid (Nat.le_trans HS1.out hw.size)
  have HB2 := Lib.hid hb
  clear hw hb c1
  have c2 : w2.cell? ⟨g, 2, none⟩ = some (.string t2) := by rw [HM2.out.cell]; rfl
  have HC2 := Lib.hid (wlongn t2 HB2.out HS2.out (by simp [be_len, tab]; omega) h2)
  go_wp2_with fail
  refine HC2.out.mono ?_
  clear HC2
  rintro e w3 ⟨rfl, sv3, hb, hw⟩
  have HM3 := Lib.hid (hw.blkB HM2.out hg HB2.out)
  have HW3 := Lib.hid (HW2.out.trans hw)
  have HS3 := Lib.hid (Nat.le_trans HS2.out hw.size)
  have HB3 := Lib.hid hb
  clear hw hb c2
  have c3 : w3.cell? ⟨g, 3, none⟩ = some (.string t3) := by rw [HM3.out.cell]; rfl
  have HC3 := Lib.hid (wshortn t3 HB3.out HS3.out (by simp [be_len, tab]; omega) h3)
  go_wp2_with fail
  refine HC3.out.mono ?_
  clear HC3
  rintro e w4 ⟨rfl, sv4, hb, hw⟩
  have HM4 := Lib.hid (hw.blkB HM3.out hg HB3.out)
  have HW4 := Lib.hid (HW3.out.trans hw)
  have HS4 := Lib.hid (Nat.le_trans HS3.out hw.size)
  have HB4 := Lib.hid hb
  clear hw hb c3
  go_wp2
  go_ret
  exact ⟨rfl, sv4, by have := HB4.out; simpa using this, HW4.out⟩

set_option maxRecDepth 100000 in
set_option maxHeartbeats 4000000 in
/-- (*connectionSecure).write -/
theorem wr_connectionSecure {B bb g : Nat} {sv : Value} {xs : List UInt8} {w : World} (ex : List Value) (t0 : ByteArray) (hm : Blk w g 109 (.string t0 :: ex).toArray) (hg : g < B) (hb : Buf w B 281 bb sv xs) (hB : B ≤ w.heap.size) (hx : xs.length ≤ 100) (h0 : t0.size ≤ 1000) :
    Calls Tryz.prog 113 #[.pointer (some ⟨g, 0, none⟩), .iface 279 (.pointer (some ⟨bb, 0, none⟩))] w (Gave w B bb sv xs ((be t0.size 4 ++ t0.data.toList))) := by
  have HM0 := Lib.hid hm
  have HW0 := Lib.hid (Wr.refl w bb sv.ownBlock)
  have HB0 := Lib.hid hb
  have HS0 := Lib.hid hB
  clear hm hb hB
  go_enter Tryz.func113, Tryz.ntmps113
  have c0 : w.cell? ⟨g, 0, none⟩ = some (.string t0) := by rw [HM0.out.cell]; rfl
  have HC0 := Lib.hid (wlongn t0 HB0.out HS0.out (by omega) h0)
  go_wp2_with fail
  refine HC0.out.mono ?_
  clear HC0
  rintro e w1 ⟨rfl, sv1, hb, hw⟩
  have HM1 := Lib.hid (hw.blkB HM0.out hg HB0.out)
  have HW1 := Lib.hid (HW0.out.trans hw)
  have HS1 := Lib.hid (Nat.le_trans HS0.out hw.size)
  have HB1 := Lib.hid hb
  clear hw hb c0
  go_wp2
  go_ret
  exact ⟨rfl, sv1, by have := HB1.out; simpa using this, HW1.out⟩

set_option maxRecDepth 100000 in
set_option maxHeartbeats 4000000 in
/-- (*connectionSecureOk).write -/
theorem wr_connectionSecureOk {B bb g : Nat} {sv : Value} {xs : List UInt8} {w : World} (ex : List Value) (t0 : ByteArray) (hm : Blk w g 112 (.string t0 :: ex).toArray) (hg : g < B) (hb : Buf w B 281 bb sv xs) (hB : B ≤ w.heap.size) (hx : xs.length ≤ 100) (h0 : t0.size ≤ 1000) :
    Calls Tryz.prog 117 #[.pointer (some ⟨g, 0, none⟩), .iface 279 (.pointer (some ⟨bb, 0, none⟩))] w (Gave w B bb sv xs ((be t0.size 4 ++ t0.data.toList))) := by
  have HM0 := Lib.hid hm
  have HW0 := Lib.hid (Wr.refl w bb sv.ownBlock)
  have HB0 := Lib.hid hb
  have HS0 := Lib.hid hB
  clear hm hb hB
  go_enter Tryz.func117, Tryz.ntmps117
  have c0 : w.cell? ⟨g, 0, none⟩ = some (.string t0) := by rw [HM0.out.cell]; rfl
  have HC0 := Lib.hid (wlongn t0 HB0.out HS0.out (by omega) h0)
  go_wp2_with fail
  refine HC0.out.mono ?_
  clear HC0
  rintro e w1 ⟨rfl, sv1, hb, hw⟩
  have HM1 := Lib.hid (hw.blkB HM0.out hg HB0.out)
  have HW1 := Lib.hid (HW0.out.trans hw)
  have HS1 := Lib.hid (Nat.le_trans HS0.out hw.size)
  have HB1 := Lib.hid hb
  clear hw hb c0
  go_wp2
  go_ret
  exact ⟨rfl, sv1, by have := HB1.out; simpa using this, HW1.out⟩

set_option maxRecDepth 100000 in
set_option maxHeartbeats 4000000 in
/-- (*connectionTune).write -/
theorem wr_connectionTune {B bb g : Nat} {sv : Value} {xs : List UInt8} {w : World} (ex : List Value) (n0 : Nat) (n1 : Nat) (n2 : Nat) (hm : Blk w g 116 (.int .u16 n0 :: .int .u32 n1 :: .int .u16 n2 :: ex).toArray) (hg : g < B) (hb : Buf w B 281 bb sv xs) (hB : B ≤ w.heap.size) (hx : xs.length ≤ 100) (h0 : n0 < 65536) (h1 : n1 < 4294967296) (h2 : n2 < 65536) :
    Calls Tryz.prog 121 #[.pointer (some ⟨g, 0, none⟩), .iface 279 (.pointer (some ⟨bb, 0, none⟩))] w (Gave w B bb sv xs (be n0 2 ++ (be n1 4 ++ (be n2 2)))) := by
  have HM0 := Lib.hid hm
  have HW0 := Lib.hid (Wr.refl w bb sv.ownBlock)
  have HB0 := Lib.hid hb
  have HS0 := Lib.hid hB
  clear hm hb hB
  go_enter Tryz.func121, Tryz.ntmps121
  have c0 : w.cell? ⟨g, 0, none⟩ = some (.int .u16 n0) := by rw [HM0.out.cell]; rfl
  have HC0 := Lib.hid (fixed16 n0 HB0.out HS0.out (by omega) h0)
  go_wp2_with fail
  refine HC0.out.mono ?_
  clear HC0
  rintro e w1 ⟨rfl, sv1, hb, hw⟩
  have HM1 := Lib.hid (hw.blkB HM0.out hg HB0.out)
  have HW1 := Lib.hid (HW0.out.trans hw)
  have HS1 := Lib.hid (Nat.le_trans HS0.out hw.size)
  have HB1 := Lib.hid hb
  clear hw hb c0
  have c1 : w1.cell? ⟨g, 1, none⟩ = some (.int .u32 n1) := by rw [HM1.out.cell]; rfl
  have HC1 := Lib.hid (fixed32 n1 HB1.out HS1.out (by simp [be_len]; omega) h1)
  go_wp2_with fail
  refine HC1.out.mono ?_
  clear HC1
  rintro e w2 ⟨rfl, sv2, hb, hw⟩
  have HM2 := Lib.hid (hw.blkB HM1.out hg HB1.out)
  have HW2 := Lib.hid (HW1.out.trans hw)
  have HS2 := Lib.hid (Nat.le_trans HS1.out hw.size)
  have HB2 := Lib.hid hb
  clear hw hb c1
  have c2 : w2.cell? ⟨g, 2, none⟩ = some (.int .u16 n2) := by rw [HM2.out.cell]; rfl
  have HC2 := Lib.hid (fixed16 n2 HB2.out HS2.out (by simp [be_len]; omega) h2)
  go_wp2_with fail
  refine HC2.out.mono ?_
  clear HC2
  rintro e w3 ⟨rfl, sv3, hb, hw⟩
  have HM3 := Lib.hid (hw.blkB HM2.out hg HB2.out)
  have HW3 := Lib.hid (HW2.out.trans hw)
  have HS3 := Lib.hid (Nat.le_trans HS2.out hw.size)
  have HB3 := Lib.hid hb
  clear hw hb c2
  go_wp2
  go_ret
  exact ⟨rfl, sv3, by have := HB3.out; simpa using this, HW3.out⟩

set_option maxRecDepth 100000 in
set_option maxHeartbeats 4000000 in
/-- (*connectionTuneOk).write -/
theorem wr_connectionTuneOk {B bb g : Nat} {sv : Value} {xs : List UInt8} {w : World} (ex : List Value) (n0 : Nat) (n1 : Nat) (n2 : Nat) (hm : Blk w g 118 (.int .u16 n0 :: .int .u32 n1 :: .int .u16 n2 :: ex).toArray) (hg : g < B) (hb : Buf w B 281 bb sv xs) (hB : B ≤ w.heap.size) (hx : xs.length ≤ 100) (h0 : n0 < 65536) (h1 : n1 < 4294967296) (h2 : n2 < 65536) :
    Calls Tryz.prog 125 #[.pointer (some ⟨g, 0, none⟩), .iface 279 (.pointer (some ⟨bb, 0, none⟩))] w (Gave w B bb sv xs (be n0 2 ++ (be n1 4 ++ (be n2 2)))) := by
  have HM0 := Lib.hid hm
  have HW0 := Lib.hid (Wr.refl w bb sv.ownBlock)
  have HB0 := Lib.hid hb
  have HS0 := Lib.hid hB
  clear hm hb hB
  go_enter Tryz.func125, Tryz.ntmps125
  have c0 : w.cell? ⟨g, 0, none⟩ = some (.int .u16 n0) := by rw [HM0.out.cell]; rfl
  have HC0 := Lib.hid (fixed16 n0 HB0.out HS0.out (by omega) h0)
  go_wp2_with fail
  refine HC0.out.mono ?_
  clear HC0
  rintro e w1 ⟨rfl, sv1, hb, hw⟩
  have HM1 := Lib.hid (hw.blkB HM0.out hg HB0.out)
  have HW1 := Lib.hid (HW0.out.trans hw)
  have HS1 := Lib.hid (Nat.le_trans HS0.out hw.size)
  have HB1 := Lib.hid hb
  clear hw hb c0
  have c1 : w1.cell? ⟨g, 1, none⟩ = some (.int .u32 n1) := by rw [HM1.out.cell]; rfl
  have HC1 := Lib.hid (fixed32 n1 HB1.out HS1.out (by simp [be_len]; omega) h1)
  go_wp2_with fail
  refine HC1.out.mono ?_
  clear HC1
  rintro e w2 ⟨rfl, sv2, hb, hw⟩
  have HM2 := Lib.hid (hw.blkB HM1.out hg HB1.out)
  have HW2 := Lib.hid (HW1.out.trans hw)
  have HS2 := Lib.hid (Nat.le_trans HS1.out hw.size)
  have HB2 := Lib.hid hb
  clear hw hb c1
  have c2 : w2.cell? ⟨g, 2, none⟩ = some (.int .u16 n2) := by rw [HM2.out.cell]; rfl
  have HC2 := Lib.hid (fixed16 n2 HB2.out HS2.out (by simp [be_len]; omega) h2)
  go_wp2_with fail
  refine HC2.out.mono ?_
  clear HC2
  rintro e w3 ⟨rfl, sv3, hb, hw⟩
  have HM3 := Lib.hid (hw.blkB HM2.out hg HB2.out)
  have HW3 := Lib.hid (HW2.out.trans hw)
  have HS3 := Lib.hid (Nat.le_trans HS2.out hw.size)
  have HB3 := Lib.hid hb
  clear hw hb c2
  go_wp2
  go_ret
  exact ⟨rfl, sv3, by have := HB3.out; simpa using this, HW3.out⟩

set_option maxRecDepth 100000 in
set_option maxHeartbeats 4000000 in
/-- (*connectionOpen).write -/
theorem wr_connectionOpen {B bb g : Nat} {sv : Value} {xs : List UInt8} {w : World} (ex : List Value) (t0 : ByteArray) (hm : Blk w g 121 (.string t0 :: .string ⟨#[]⟩ :: .bool false :: ex).toArray) (hg : g < B) (hb : Buf w B 281 bb sv xs) (hB : B ≤ w.heap.size) (hx : xs.length ≤ 100) (h0 : t0.size ≤ 255) :
    Calls Tryz.prog 129 #[.pointer (some ⟨g, 0, none⟩), .iface 279 (.pointer (some ⟨bb, 0, none⟩))] w (Gave w B bb sv xs ((be t0.size 1 ++ t0.data.toList) ++ ((be 0 1 ++ []) ++ (be (bitv [false]) 1)))) := by
  have HM0 := Lib.hid hm
  have HW0 := Lib.hid (Wr.refl w bb sv.ownBlock)
  have HB0 := Lib.hid hb
  have HS0 := Lib.hid hB
  clear hm hb hB
  go_enter Tryz.func129, Tryz.ntmps129
  have c0 : w.cell? ⟨g, 0, none⟩ = some (.string t0) := by rw [HM0.out.cell]; rfl
  have HC0 := Lib.hid (wshortn t0 HB0.out HS0.out (by omega) h0)
  go_wp2_with fail
  refine HC0.out.mono ?_
  clear HC0
  rintro e w1 ⟨rfl, sv1, hb, hw⟩
  have HM1 := Lib.hid (hw.blkB HM0.out hg HB0.out)
  have HW1 := Lib.hid (HW0.out.trans hw)
  have HS1 := Lib.hid (Nat.le_trans HS0.out hw.size)
  have HB1 := Lib.hid hb
  clear hw hb c0
  have c1 : w1.cell? ⟨g, 1, none⟩ = some (.string ⟨#[]⟩) := by rw [HM1.out.cell]; rfl
  have HC1 := Lib.hid (wshort0 HB1.out HS1.out (by simp [be_len]; omega))
  go_wp2_with fail
  refine HC1.out.mono ?_
  clear HC1
  rintro e w2 ⟨rfl, sv2, hb, hw⟩
  have HM2 := Lib.hid (hw.blkB HM1.out hg HB1.out)
  have HW2 := Lib.hid (HW1.out.trans hw)
  have HS2 := Lib.hid (Nat.le_trans HS1.out hw.size)
  have HB2 := Lib.hid hb
  clear hw hb c1
  have c2 : w2.cell? ⟨g, 2, none⟩ = some (.bool false) := by rw [HM2.out.cell]; rfl
  go_wp2_with fail
  refine (fixed8n _ HB2.out HS2.out (by simp [be_len]; omega) (by decide)).mono ?_
  rintro e w3 ⟨rfl, sv3, hb, hw⟩
  have HM3 := Lib.hid (hw.blkB HM2.out hg HB2.out)
  have HW3 := Lib.hid (HW2.out.trans hw)
  have HS3 := Lib.hid (Nat.le_trans HS2.out hw.size)
  have HB3 := Lib.hid hb
  clear hw hb c2
  go_wp2
  go_ret
  exact ⟨rfl, sv3, by have := HB3.out; simpa [bitv] using this, HW3.out⟩

set_option maxRecDepth 100000 in
set_option maxHeartbeats 4000000 in
/-- (*connectionOpenOk).write -/
theorem wr_connectionOpenOk {B bb g : Nat} {sv : Value} {xs : List UInt8} {w : World} (ex : List Value)  (hm : Blk w g 124 (.string ⟨#[]⟩ :: ex).toArray) (hg : g < B) (hb : Buf w B 281 bb sv xs) (hB : B ≤ w.heap.size) (hx : xs.length ≤ 100) :
    Calls Tryz.prog 133 #[.pointer (some ⟨g, 0, none⟩), .iface 279 (.pointer (some ⟨bb, 0, none⟩))] w (Gave w B bb sv xs ((be 0 1 ++ []))) := by
  have HM0 := Lib.hid hm
  have HW0 := Lib.hid (Wr.refl w bb sv.ownBlock)
  have HB0 := Lib.hid hb
  have HS0 := Lib.hid hB
  clear hm hb hB
  go_enter Tryz.func133, Tryz.ntmps133
  have c0 : w.cell? ⟨g, 0, none⟩ = some (.string ⟨#[]⟩) := by rw [HM0.out.cell]; rfl
  have HC0 := Lib.hid (wshort0 HB0.out HS0.out (by omega))
  go_wp2_with fail
  refine HC0.out.mono ?_
  clear HC0
  rintro e w1 ⟨rfl, sv1, hb, hw⟩
  have HM1 := Lib.hid (hw.blkB HM0.out hg HB0.out)
  have HW1 := Lib.hid (HW0.out.trans hw)
  have HS1 := Lib.hid (Nat.le_trans HS0.out hw.size)
  have HB1 := Lib.hid hb
  clear hw hb c0
  go_wp2
  go_ret
  exact ⟨rfl, sv1, by have := HB1.out; simpa using this, HW1.out⟩

set_option maxRecDepth 100000 in
set_option maxHeartbeats 4000000 in
/-- (*connectionClose).write -/
theorem wr_connectionClose {B bb g : Nat} {sv : Value} {xs : List UInt8} {w : World} (ex : List Value) (n0 : Nat) (t1 : ByteArray) (n2 : Nat) (n3 : Nat) (hm : Blk w g 127 (.int .u16 n0 :: .string t1 :: .int .u16 n2 :: .int .u16 n3 :: ex).toArray) (hg : g < B) (hb : Buf w B 281 bb sv xs) (hB : B ≤ w.heap.size) (hx : xs.length ≤ 100) (h0 : n0 < 65536) (h1 : t1.size ≤ 255) (h2 : n2 < 65536) (h3 : n3 < 65536) :
    Calls Tryz.prog 137 #[.pointer (some ⟨g, 0, none⟩), .iface 279 (.pointer (some ⟨bb, 0, none⟩))] w (Gave w B bb sv xs (be n0 2 ++ ((be t1.size 1 ++ t1.data.toList) ++ (be n2 2 ++ (be n3 2))))) := by
  have HM0 := Lib.hid hm
  have HW0 := Lib.hid (Wr.refl w bb sv.ownBlock)
  have HB0 := Lib.hid hb
  have HS0 := Lib.hid hB
  clear hm hb hB
  go_enter Tryz.func137, Tryz.ntmps137
  have c0 : w.cell? ⟨g, 0, none⟩ = some (.int .u16 n0) := by rw [HM0.out.cell]; rfl
  have HC0 := Lib.hid (fixed16 n0 HB0.out HS0.out (by omega) h0)
  go_wp2_with fail
  refine HC0.out.mono ?_
  clear HC0
  rintro e w1 ⟨rfl, sv1, hb, hw⟩
  have HM1 := Lib.hid (hw.blkB HM0.out hg HB0.out)
  have HW1 := Lib.hid (HW0.out.trans hw)
  have HS1 := Lib.hid (Nat.le_trans HS0.out hw.size)
  have HB1 := Lib.hid hb
  clear hw hb c0
  have c1 : w1.cell? ⟨g, 1, none⟩ = some (.string t1) := by rw [HM1.out.cell]; rfl
  have HC1 := Lib.hid (wshortn t1 HB1.out HS1.out (by simp [be_len]; omega) h1)
  go_wp2_with fail
  refine HC1.out.mono ?_
  clear HC1
  rintro e w2 ⟨rfl, sv2, hb, hw⟩
  have HM2 := Lib.hid (hw.blkB HM1.out hg HB1.out)
  have HW2 := Lib.hid (HW1.out.trans hw)
  have HS2 := Lib.hid (Nat.le_trans HS1.out hw.size)
  have HB2 := Lib.hid hb
  clear hw hb c1
  have c2 : w2.cell? ⟨g, 2, none⟩ = some (.int .u16 n2) := by rw [HM2.out.cell]; rfl
  have HC2 := Lib.hid (fixed16 n2 HB2.out HS2.out (by simp [be_len]; omega) h2)
  go_wp2_with fail
  refine HC2.out.mono ?_
  clear HC2
  rintro e w3 ⟨rfl, sv3, hb, hw⟩
  have HM3 := Lib.hid (hw.blkB HM2.out hg HB2.out)
  have HW3 := Lib.hid (HW2.out.trans hw)
  have HS3 := Lib.hid (Nat.le_trans HS2.out hw.size)
  have HB3 := Lib.hid hb
  clear hw hb c2
  have c3 : w3.cell? ⟨g, 3, none⟩ = some (.int .u16 n3) := by rw [HM3.out.cell]; rfl
  have HC3 := Lib.hid (fixed16 n3 HB3.out HS3.out (by simp [be_len]; omega) h3)
  go_wp2_with fail
  refine HC3.out.mono ?_
  clear HC3
  rintro e w4 ⟨rfl, sv4, hb, hw⟩
  have HM4 := Lib.hid (hw.blkB HM3.out hg HB3.out)
  have HW4 := Lib.hid (HW3.out.trans hw)
  have HS4 := Lib.hid (Nat.le_trans HS3.out hw.size)
  have HB4 := Lib.hid hb
  clear hw hb c3
  go_wp2
  go_ret
  exact ⟨rfl, sv4, by have := HB4.out; simpa using this, HW4.out⟩

set_option maxRecDepth 100000 in
set_option maxHeartbeats 4000000 in
/-- (*connectionCloseOk).write -/
theorem wr_connectionCloseOk {B bb g : Nat} {sv : Value} {xs : List UInt8} {w : World} (ex : List Value)  (hm : Blk w g 130 (ex).toArray) (hg : g < B) (hb : Buf w B 281 bb sv xs) (hB : B ≤ w.heap.size) (hx : xs.length ≤ 100) :
    Calls Tryz.prog 141 #[.pointer (some ⟨g, 0, none⟩), .iface 279 (.pointer (some ⟨bb, 0, none⟩))] w (Gave w B bb sv xs ([])) := by
  go_enter Tryz.func141, Tryz.ntmps141
  go_wp2
  go_ret
  exact Gave.nil hb

set_option maxRecDepth 100000 in
set_option maxHeartbeats 4000000 in
/-- (*connectionBlocked).write -/
theorem wr_connectionBlocked {B bb g : Nat} {sv : Value} {xs : List UInt8} {w : World} (ex : List Value) (t0 : ByteArray) (hm : Blk w g 133 (.string t0 :: ex).toArray) (hg : g < B) (hb : Buf w B 281 bb sv xs) (hB : B ≤ w.heap.size) (hx : xs.length ≤ 100) (h0 : t0.size ≤ 255) :
    Calls Tryz.prog 145 #[.pointer (some ⟨g, 0, none⟩), .iface 279 (.pointer (some ⟨bb, 0, none⟩))] w (Gave w B bb sv xs ((be t0.size 1 ++ t0.data.toList))) := by
  have HM0 := Lib.hid hm
  have HW0 := Lib.hid (Wr.refl w bb sv.ownBlock)
  have HB0 := Lib.hid hb
  have HS0 := Lib.hid hB
  clear hm hb hB
  go_enter Tryz.func145, Tryz.ntmps145
  have c0 : w.cell? ⟨g, 0, none⟩ = some (.string t0) := by rw [HM0.out.cell]; rfl
  have HC0 := Lib.hid (wshortn t0 HB0.out HS0.out (by omega) h0)
  go_wp2_with fail
  refine HC0.out.mono ?_
  clear HC0
  rintro e w1 ⟨rfl, sv1, hb, hw⟩
  have HM1 := Lib.hid (hw.blkB HM0.out hg HB0.out)
  have HW1 := Lib.hid (HW0.out.trans hw)
  have HS1 := Lib.hid (Nat.le_trans HS0.out hw.size)
  have HB1 := Lib.hid hb
  clear hw hb c0
  go_wp2
  go_ret
  exact ⟨rfl, sv1, by have := HB1.out; simpa using this, HW1.out⟩

set_option maxRecDepth 100000 in
set_option maxHeartbeats 4000000 in
/-- (*connectionUnblocked).write -/
theorem wr_connectionUnblocked {B bb g : Nat} {sv : Value} {xs : List UInt8} {w : World} (ex : List Value)  (hm : Blk w g 135 (ex).toArray) (hg : g < B) (hb : Buf w B 281 bb sv xs) (hB : B ≤ w.heap.size) (hx : xs.length ≤ 100) :
    Calls Tryz.prog 149 #[.pointer (some ⟨g, 0, none⟩), .iface 279 (.pointer (some ⟨bb, 0, none⟩))] w (Gave w B bb sv xs ([])) := by
  go_enter Tryz.func149, Tryz.ntmps149
  go_wp2
  go_ret
  exact Gave.nil hb

set_option maxRecDepth 100000 in
set_option maxHeartbeats 4000000 in
/-- (*connectionUpdateSecret).write -/
theorem wr_connectionUpdateSecret {B bb g : Nat} {sv : Value} {xs : List UInt8} {w : World} (ex : List Value) (t0 : ByteArray) (t1 : ByteArray) (hm : Blk w g 138 (.string t0 :: .string t1 :: ex).toArray) (hg : g < B) (hb : Buf w B 281 bb sv xs) (hB : B ≤ w.heap.size) (hx : xs.length ≤ 100) (h0 : t0.size ≤ 1000) (h1 : t1.size ≤ 255) :
    Calls Tryz.prog 153 #[.pointer (some ⟨g, 0, none⟩), .iface 279 (.pointer (some ⟨bb, 0, none⟩))] w (Gave w B bb sv xs ((be t0.size 4 ++ t0.data.toList) ++ ((be t1.size 1 ++ t1.data.toList)))) := by
  have HM0 := Lib.hid hm
  have HW0 := Lib.hid (Wr.refl w bb sv.ownBlock)
  have HB0 := Lib.hid hb
  have HS0 := Lib.hid hB
  clear hm hb hB
  go_enter Tryz.func153, Tryz.ntmps153
  have c0 : w.cell? ⟨g, 0, none⟩ = some (.string t0) := by rw [HM0.out.cell]; rfl
  have HC0 := Lib.hid (wlongn t0 HB0.out HS0.out (by omega) h0)
  go_wp2_with fail
  refine HC0.out.mono ?_
  clear HC0
  rintro e w1 ⟨rfl, sv1, hb, hw⟩
  have HM1 := Lib.hid (hw.blkB HM0.out hg HB0.out)
  have HW1 := Lib.hid (HW0.out.trans hw)
  have HS1 := Lib.hid (Nat.le_trans HS0.out hw.size)
  have HB1 := Lib.hid hb
  clear hw hb c0
  have c1 : w1.cell? ⟨g, 1, none⟩ = some (.string t1) := by rw [HM1.out.cell]; rfl
  have HC1 := Lib.hid (wshortn t1 HB1.out HS1.out (by simp [be_len]; omega) h1)
  go_wp2_with fail
  refine HC1.out.mono ?_
  clear HC1
  rintro e w2 ⟨rfl, sv2, hb, hw⟩
  have HM2 := Lib.hid (hw.blkB HM1.out hg HB1.out)
  have HW2 := Lib.hid (HW1.out.trans hw)
  have HS2 := Lib.hid (Nat.le_trans HS1.out hw.size)
  have HB2 := Lib.hid hb
  clear hw hb c1
  go_wp2
  go_ret
  exact ⟨rfl, sv2, by have := HB2.out; simpa using this, HW2.out⟩

set_option maxRecDepth 100000 in
set_option maxHeartbeats 4000000 in
/-- (*connectionUpdateSecretOk).write -/
theorem wr_connectionUpdateSecretOk {B bb g : Nat} {sv : Value} {xs : List UInt8} {w : World} (ex : List Value)  (hm : Blk w g 140 (ex).toArray) (hg : g < B) (hb : Buf w B 281 bb sv xs) (hB : B ≤ w.heap.size) (hx : xs.length ≤ 100) :
    Calls Tryz.prog 157 #[.pointer (some ⟨g, 0, none⟩), .iface 279 (.pointer (some ⟨bb, 0, none⟩))] w (Gave w B bb sv xs ([])) := by
  go_enter Tryz.func157, Tryz.ntmps157
  go_wp2
  go_ret
  exact Gave.nil hb

set_option maxRecDepth 100000 in
set_option maxHeartbeats 4000000 in
/-- (*channelOpen).write -/
theorem wr_channelOpen {B bb g : Nat} {sv : Value} {xs : List UInt8} {w : World} (ex : List Value)  (hm : Blk w g 142 (.string ⟨#[]⟩ :: ex).toArray) (hg : g < B) (hb : Buf w B 281 bb sv xs) (hB : B ≤ w.heap.size) (hx : xs.length ≤ 100) :
    Calls Tryz.prog 161 #[.pointer (some ⟨g, 0, none⟩), .iface 279 (.pointer (some ⟨bb, 0, none⟩))] w (Gave w B bb sv xs ((be 0 1 ++ []))) := by
  have HM0 := Lib.hid hm
  have HW0 := Lib.hid (Wr.refl w bb sv.ownBlock)
  have HB0 := Lib.hid hb
  have HS0 := Lib.hid hB
  clear hm hb hB
  go_enter Tryz.func161, Tryz.ntmps161
  have c0 : w.cell? ⟨g, 0, none⟩ = some (.string ⟨#[]⟩) := by rw [HM0.out.cell]; rfl
  have HC0 := Lib.hid (wshort0 HB0.out HS0.out (by omega))
  go_wp2_with fail
  refine HC0.out.mono ?_
  clear HC0
  rintro e w1 ⟨rfl, sv1, hb, hw⟩
  have HM1 := Lib.hid (hw.blkB HM0.out hg HB0.out)
  have HW1 := Lib.hid (HW0.out.trans hw)
  have HS1 := Lib.hid (Nat.le_trans HS0.out hw.size)
  have HB1 := Lib.hid hb
  clear hw hb c0
  go_wp2
  go_ret
  exact ⟨rfl, sv1, by have := HB1.out; simpa using this, HW1.out⟩

set_option maxRecDepth 100000 in
set_option maxHeartbeats 4000000 in
/-- (*channelOpenOk).write -/
theorem wr_channelOpenOk {B bb g : Nat} {sv : Value} {xs : List UInt8} {w : World} (ex : List Value)  (hm : Blk w g 144 (.string ⟨#[]⟩ :: ex).toArray) (hg : g < B) (hb : Buf w B 281 bb sv xs) (hB : B ≤ w.heap.size) (hx : xs.length ≤ 100) :
    Calls Tryz.prog 165 #[.pointer (some ⟨g, 0, none⟩), .iface 279 (.pointer (some ⟨bb, 0, none⟩))] w (Gave w B bb sv xs ((be 0 4 ++ []))) := by
  have HM0 := Lib.hid hm
  have HW0 := Lib.hid (Wr.refl w bb sv.ownBlock)
  have HB0 := Lib.hid hb
  have HS0 := Lib.hid hB
  clear hm hb hB
  go_enter Tryz.func165, Tryz.ntmps165
  have c0 : w.cell? ⟨g, 0, none⟩ = some (.string ⟨#[]⟩) := by rw [HM0.out.cell]; rfl
  have HC0 := Lib.hid (wlong0 HB0.out HS0.out (by omega))
  go_wp2_with fail
  refine HC0.out.mono ?_
  clear HC0
  rintro e w1 ⟨rfl, sv1, hb, hw⟩
  have HM1 := Lib.hid (hw.blkB HM0.out hg HB0.out)
  have HW1 := Lib.hid (HW0.out.trans hw)
  have HS1 := Lib.hid (Nat.le_trans HS0.out hw.size)
  have HB1 := Lib.hid hb
  clear hw hb c0
  go_wp2
  go_ret
  exact ⟨rfl, sv1, by have := HB1.out; simpa using this, HW1.out⟩

set_option maxRecDepth 100000 in
set_option maxHeartbeats 4000000 in
/-- (*channelFlow).write -/
theorem wr_channelFlow {B bb g : Nat} {sv : Value} {xs : List UInt8} {w : World} (ex : List Value) (b0 : Bool) (hm : Blk w g 147 (.bool b0 :: ex).toArray) (hg : g < B) (hb : Buf w B 281 bb sv xs) (hB : B ≤ w.heap.size) (hx : xs.length ≤ 100) :
    Calls Tryz.prog 169 #[.pointer (some ⟨g, 0, none⟩), .iface 279 (.pointer (some ⟨bb, 0, none⟩))] w (Gave w B bb sv xs (be (bitv [b0]) 1)) := by
  have HM0 := Lib.hid hm
  have HW0 := Lib.hid (Wr.refl w bb sv.ownBlock)
  have HB0 := Lib.hid hb
  have HS0 := Lib.hid hB
  clear hm hb hB
  go_enter Tryz.func169, Tryz.ntmps169
  have c0 : w.cell? ⟨g, 0, none⟩ = some (.bool b0) := by rw [HM0.out.cell]; rfl
  cases b0
  all_goals
    go_wp2_with fail
    refine (fixed8n _ HB0.out HS0.out (by omega) (by decide)).mono ?_
    rintro e w1 ⟨rfl, sv1, hb, hw⟩
    have HM1 := Lib.hid (hw.blkB HM0.out hg HB0.out)
    have HW1 := Lib.hid (HW0.out.trans hw)
    have HS1 := Lib.hid (Nat.le_trans HS0.out hw.size)
    have HB1 := Lib.hid hb
    clear hw hb c0
    go_wp2
    go_ret
    exact ⟨rfl, sv1, by have := HB1.out; simpa [bitv] using this, HW1.out⟩

set_option maxRecDepth 100000 in
set_option maxHeartbeats 4000000 in
/-- (*channelFlowOk).write -/
theorem wr_channelFlowOk {B bb g : Nat} {sv : Value} {xs : List UInt8} {w : World} (ex : List Value) (b0 : Bool) (hm : Blk w g 149 (.bool b0 :: ex).toArray) (hg : g < B) (hb : Buf w B 281 bb sv xs) (hB : B ≤ w.heap.size) (hx : xs.length ≤ 100) :
    Calls Tryz.prog 173 #[.pointer (some ⟨g, 0, none⟩), .iface 279 (.pointer (some ⟨bb, 0, none⟩))] w (Gave w B bb sv xs (be (bitv [b0]) 1)) := by
  have HM0 := Lib.hid hm
  have HW0 := Lib.hid (Wr.refl w bb sv.ownBlock)
  have HB0 := Lib.hid hb
  have HS0 := Lib.hid hB
  clear hm hb hB
  go_enter Tryz.func173, Tryz.ntmps173
  have c0 : w.cell? ⟨g, 0, none⟩ = some (.bool b0) := by rw [HM0.out.cell]; rfl
  cases b0
  all_goals
    go_wp2_with fail
    refine (fixed8n _ HB0.out HS0.out (by omega) (by decide)).mono ?_
    rintro e w1 ⟨rfl, sv1, hb, hw⟩
    have HM1 := Lib.hid (hw.blkB HM0.out hg HB0.out)
    have HW1 := Lib.hid (HW0.out.trans hw)
    have HS1 := Lib.hid (Nat.le_trans HS0.out hw.size)
    have HB1 := Lib.hid hb
    clear hw hb c0
    go_wp2
    go_ret
    exact ⟨rfl, sv1, by have := HB1.out; simpa [bitv] using this, HW1.out⟩

set_option maxRecDepth 100000 in
set_option maxHeartbeats 4000000 in
/-- (*exchangeDeclare).write -/
theorem wr_exchangeDeclare {B bb g : Nat} {sv : Value} {xs : List UInt8} {w : World} (ex : List Value) (t1 : ByteArray) (t2 : ByteArray) (b3 : Bool) (b4 : Bool) (b5 : Bool) (b6 : Bool) (b7 : Bool) (m8 : Nat) (f8 : Fs) (hm : Blk w g 156 (.int .u16 0 :: .string t1 :: .string t2 :: .bool b3 :: .bool b4 :: .bool b5 :: .bool b6 :: .bool b7 :: .map (some m8) :: ex).toArray) (hg : g < B) (hb : Buf w B 281 bb sv xs) (hB : B ≤ w.heap.size) (hx : xs.length ≤ 100) (h1 : t1.size ≤ 255) (h2 : t2.size ≤ 255) (h8 : TabV w (fun g => g < B) f8 m8) (g8 : f8.good none) (k8 : f8.ok) (e8 : f8.enc.length ≤ 20000) :
    Calls Tryz.prog 185 #[.pointer (some ⟨g, 0, none⟩), .iface 279 (.pointer (some ⟨bb, 0, none⟩))] w (Gave w B bb sv xs (be 0 2 ++ ((be t1.size 1 ++ t1.data.toList) ++ ((be t2.size 1 ++ t2.data.toList) ++ (be (bitv [b3, b4, b5, b6, b7]) 1 ++ (tab f8)))))) := by
  have HT8 := Lib.hid h8
  have HG8 := Lib.hid g8
  have HK8 := Lib.hid k8
  clear h8 g8 k8
  have HM0 := Lib.hid hm
  have HW0 := Lib.hid (Wr.refl w bb sv.ownBlock)
  have HB0 := Lib.hid hb
  have HS0 := Lib.hid hB
  clear hm hb hB
  go_enter Tryz.func185, Tryz.ntmps185
  have c0 : w.cell? ⟨g, 0, none⟩ = some (.int .u16 0) := by rw [HM0.out.cell]; rfl
  have HC0 := Lib.hid (fixed16 0 HB0.out HS0.out (by omega) (by omega))
  go_wp2_with fail
  refine HC0.out.mono ?_
  clear HC0
  rintro e w1 ⟨rfl, sv1, hb, hw⟩
  have HM1 := Lib.hid (hw.blkB HM0.out hg HB0.out)
  have HW1 := Lib.hid (HW0.out.trans hw)
  have HS1 := Lib.hid (Nat.le_trans HS0.out hw.size)
  have HB1 := Lib.hid hb
  clear hw hb c0
  have c1 : w1.cell? ⟨g, 1, none⟩ = some (.string t1) := by rw [HM1.out.cell]; rfl
  have HC1 := Lib.hid (wshortn t1 HB1.out HS1.out (by simp [be_len]; omega) h1)
  go_wp2_with fail
  refine HC1.out.mono ?_
  clear HC1
  rintro e w2 ⟨rfl, sv2, hb, hw⟩
  have HM2 := Lib.hid (hw.blkB HM1.out hg HB1.out)
  have HW2 := Lib.hid (HW1.out.trans hw)
  have HS2 := Lib.hid (Nat.le_trans HS1.out hw.size)
  have HB2 := Lib.hid hb
  clear hw hb c1
  have c2 : w2.cell? ⟨g, 2, none⟩ = some (.string t2) := by rw [HM2.out.cell]; rfl
  have HC2 := Lib.hid (wshortn t2 HB2.out HS2.out (by simp [be_len]; omega) h2)
  go_wp2_with fail
  refine HC2.out.mono ?_
  clear HC2
  rintro e w3 ⟨rfl, sv3, hb, hw⟩
  have HM3 := Lib.hid (hw.blkB HM2.out hg HB2.out)
  have HW3 := Lib.hid (HW2.out.trans hw)
  have HS3 := Lib.hid (Nat.le_trans HS2.out hw.size)
  have HB3 := Lib.hid hb
  clear hw hb c2
  have c3 : w3.cell? ⟨g, 3, none⟩ = some (.bool b3) := by rw [HM3.out.cell]; rfl
  have c4 : w3.cell? ⟨g, 4, none⟩ = some (.bool b4) := by rw [HM3.out.cell]; rfl
  have c5 : w3.cell? ⟨g, 5, none⟩ = some (.bool b5) := by rw [HM3.out.cell]; rfl
  have c6 : w3.cell? ⟨g, 6, none⟩ = some (.bool b6) := by rw [HM3.out.cell]; rfl
  have c7 : w3.cell? ⟨g, 7, none⟩ = some (.bool b7) := by rw [HM3.out.cell]; rfl
  cases b3 <;> cases b4 <;> cases b5 <;> cases b6 <;> cases b7
  all_goals
    go_wp2_with fail
    refine (fixed8n _ HB3.out HS3.out (by simp [be_len]; omega) (by decide)).mono ?_
    rintro e w4 ⟨rfl, sv4, hb, hw⟩
    have HM4 := Lib.hid (hw.blkB HM3.out hg HB3.out)
    have HW4 := Lib.hid (HW3.out.trans hw)
    have HS4 := Lib.hid (Nat.le_trans HS3.out hw.size)
    have HB4 := Lib.hid hb
    clear hw hb c3 c4 c5 c6 c7
    have c8 : w4.cell? ⟨g, 8, none⟩ = some (.map (some m8)) := by rw [HM4.out.cell]; rfl
    have HC4 := Lib.hid (wtabn HG8.out HK8.out (HT8.out) HW4.out HB0.out HS0.out HB4.out HS4.out e8 (by simp [be_len]; omega))
    go_wp2_with fail
    refine HC4.out.mono ?_
    clear HC4
    rintro e w5 ⟨rfl, sv5, hb, hw⟩
    have HM5 := Lib.hid (hw.blkB HM4.out hg HB4.out)
    have HW5 := Lib.hid (HW4.out.trans hw)
    have HS5 := Lib.hid (Nat.le_trans HS4.out hw.size)
    have HB5 := Lib.hid hb
    clear hw hb c8
    go_wp2
    go_ret
    exact ⟨rfl, sv5, by have := HB5.out; simpa [bitv] using this, HW5.out⟩

end Go.Proofs.YtabeppaehenefaaGreat
