/-
  FnMethod: the methods' write functions, part 2 (printed by a program).
-/
import Derived.Test.YtabeppaehenefaaGreatNa
namespace Go.Proofs.YtabeppaehenefaaGreat
open Go.RowKit
attribute [local go_sem ↓] Go.wp_at_zero Go.wp_at_succ
set_option linter.unusedVariables false

set_option maxRecDepth 100000 in
set_option maxHeartbeats 4000000 in
/-- (*channelClose).write -/
theorem wr_channelClose {B bb g : Nat} {sv : Value} {xs : List UInt8} {w : World} (ex : List Value) (n0 : Nat) (t1 : ByteArray) (n2 : Nat) (n3 : Nat) (hm : Blk w g 151 (.int .u16 n0 :: .string t1 :: .int .u16 n2 :: .int .u16 n3 :: ex).toArray) (hg : g < B) (hb : Buf w B 281 bb sv xs) (hB : B ≤ w.heap.size) (hx : xs.length ≤ 100) (h0 : n0 < 65536) (h1 : t1.size ≤ 255) (h2 : n2 < 65536) (h3 : n3 < 65536) :
    Calls Tryz.prog 177 #[.pointer (some ⟨g, 0, none⟩), .iface 279 (.pointer (some ⟨bb, 0, none⟩))] w (Gave w B bb sv xs (be n0 2 ++ ((be t1.size 1 ++ t1.data.toList) ++ (be n2 2 ++ (be n3 2))))) := by
  have HM0 := Lib.hid hm
  have HW0 := Lib.hid (Wr.refl w bb sv.ownBlock)
  have HB0 := Lib.hid hb
  have HS0 := Lib.hid hB
  clear hm hb hB
  go_enter Tryz.func177, Tryz.ntmps177
  have c0 : w.cell? ⟨g, 0, none⟩ = some (.int .u16 n0) := by rw [HM0.out.cell]; rfl
  have HC0 := Lib.hid (fixed16 n0 HB0.out HS0.out (by omega) h0)
  go_wp2_with fail
  refine HC0.out.mono ?_
  clear HC0
  rintro e w1 ⟨rfl, sv1, hb, hw⟩
  have HM1 := Lib.hid (hw.blkB HM0.out hg HB0.out)
  have HW1 := Lib.hid (HW0.out.trans hw)
  have HS1 := Lib.hid (Nat.le_trans HS0.out hw.size)
  have HB1 := Lib.hid hb
  clear hw hb c0
  have c1 : w1.cell? ⟨g, 1, none⟩ = some (.string t1) := by rw [HM1.out.cell]; rfl
  have HC1 := Lib.hid (wshortn t1 HB1.out HS1.out (by simp [be_len]; omega) h1)
  go_wp2_with fail
  refine HC1.out.mono ?_
  clear HC1
  rintro e w2 ⟨rfl, sv2, hb, hw⟩
  have HM2 := Lib.hid (hw.blkB HM1.out hg HB1.out)
  have HW2 := Lib.hid (HW1.out.trans hw)
  have HS2 := Lib.hid (Nat.le_trans HS1.out hw.size)
  have HB2 := Lib.hid hb
  clear hw hb c1
  have c2 : w2.cell? ⟨g, 2, none⟩ = some (.int .u16 n2) := by rw [HM2.out.cell]; rfl
  have HC2 := Lib.hid (fixed16 n2 HB2.out HS2.out (by simp [be_len]; omega) h2)
  go_wp2_with fail
  refine HC2.out.mono ?_
  clear HC2
  rintro e w3 ⟨rfl, sv3, hb, hw⟩
  have HM3 := Lib.hid (hw.blkB HM2.out hg HB2.out)
  have HW3 := Lib.hid (HW2.out.trans hw)
  have HS3 := Lib.hid (Nat.le_trans HS2.out hw.size)
  have HB3 := Lib.hid hb
  clear hw hb c2
  have c3 : w3.cell? ⟨g, 3, none⟩ = some (.int .u16 n3) := by rw [HM3.out.cell]; rfl
  have HC3 := Lib.hid (fixed16 n3 HB3.out HS3.out (by simp [be_len]; omega) h3)
  go_wp2_with fail
  refine HC3.out.mono ?_
  clear HC3
  rintro e w4 ⟨rfl, sv4, hb, hw⟩
  have HM4 := Lib.hid (hw.blkB HM3.out hg HB3.out)
  have HW4 := Lib.hid (HW3.out.trans hw)
  have HS4 := Lib.hid (Nat.le_trans HS3.out hw.size)
  have HB4 := Lib.hid hb
  clear hw hb c3
  go_wp2
  go_ret
  exact ⟨rfl, sv4, by have := HB4.out; simpa using this, HW4.out⟩

set_option maxRecDepth 100000 in
set_option maxHeartbeats 4000000 in
/-- (*channelCloseOk).write -/
theorem wr_channelCloseOk {B bb g : Nat} {sv : Value} {xs : List UInt8} {w : World} (ex : List Value)  (hm : Blk w g 153 (ex).toArray) (hg : g < B) (hb : Buf w B 281 bb sv xs) (hB : B ≤ w.heap.size) (hx : xs.length ≤ 100) :
    Calls Tryz.prog 181 #[.pointer (some ⟨g, 0, none⟩), .iface 279 (.pointer (some ⟨bb, 0, none⟩))] w (Gave w B bb sv xs ([])) := by
  go_enter Tryz.func181, Tryz.ntmps181
  go_wp2
  go_ret
  exact Gave.nil hb

set_option maxRecDepth 100000 in
set_option maxHeartbeats 4000000 in
/-- (*exchangeDeclareOk).write -/
theorem wr_exchangeDeclareOk {B bb g : Nat} {sv : Value} {xs : List UInt8} {w : World} (ex : List Value)  (hm : Blk w g 158 (ex).toArray) (hg : g < B) (hb : Buf w B 281 bb sv xs) (hB : B ≤ w.heap.size) (hx : xs.length ≤ 100) :
    Calls Tryz.prog 189 #[.pointer (some ⟨g, 0, none⟩), .iface 279 (.pointer (some ⟨bb, 0, none⟩))] w (Gave w B bb sv xs ([])) := by
  go_enter Tryz.func189, Tryz.ntmps189
  go_wp2
  go_ret
  exact Gave.nil hb

set_option maxRecDepth 100000 in
set_option maxHeartbeats 4000000 in
/-- (*exchangeDelete).write -/
theorem wr_exchangeDelete {B bb g : Nat} {sv : Value} {xs : List UInt8} {w : World} (ex : List Value) (t1 : ByteArray) (b2 : Bool) (b3 : Bool) (hm : Blk w g 161 (.int .u16 0 :: .string t1 :: .bool b2 :: .bool b3 :: ex).toArray) (hg : g < B) (hb : Buf w B 281 bb sv xs) (hB : B ≤ w.heap.size) (hx : xs.length ≤ 100) (h1 : t1.size ≤ 255) :
    Calls Tryz.prog 193 #[.pointer (some ⟨g, 0, none⟩), .iface 279 (.pointer (some ⟨bb, 0, none⟩))] w (Gave w B bb sv xs (be 0 2 ++ ((be t1.size 1 ++ t1.data.toList) ++ (be (bitv [b2, b3]) 1)))) := by
  have HM0 := Lib.hid hm
  have HW0 := Lib.hid (Wr.refl w bb sv.ownBlock)
  have HB0 := Lib.hid hb
  have HS0 := Lib.hid hB
  clear hm hb hB
  go_enter Tryz.func193, Tryz.ntmps193
  have c0 : w.cell? ⟨g, 0, none⟩ = some (.int .u16 0) := by rw [HM0.out.cell]; rfl
  have HC0 := Lib.hid (fixed16 0 HB0.out HS0.out (by omega) (by omega))
  go_wp2_with fail
  refine HC0.out.mono ?_
  clear HC0
  rintro e w1 ⟨rfl, sv1, hb, hw⟩
  have HM1 := Lib.hid (hw.blkB HM0.out hg HB0.out)
  have HW1 := Lib.hid (HW0.out.trans hw)
  have HS1 := Lib.hid (Nat.le_trans HS0.out hw.size)
  have HB1 := Lib.hid hb
  clear hw hb c0
  have c1 : w1.cell? ⟨g, 1, none⟩ = some (.string t1) := by rw [HM1.out.cell]; rfl
  have HC1 := Lib.hid (wshortn t1 HB1.out HS1.out (by simp [be_len]; omega) h1)
  go_wp2_with fail
  refine HC1.out.mono ?_
  clear HC1
  rintro e w2 ⟨rfl, sv2, hb, hw⟩
  have HM2 := Lib.hid (hw.blkB HM1.out hg HB1.out)
  have HW2 := Lib.hid (HW1.out.trans hw)
  have HS2 := Lib.hid (Nat.le_trans HS1.out hw.size)
  have HB2 := Lib.hid hb
  clear hw hb c1
  have c2 : w2.cell? ⟨g, 2, none⟩ = some (.bool b2) := by rw [HM2.out.cell]; rfl
  have c3 : w2.cell? ⟨g, 3, none⟩ = some (.bool b3) := by rw [HM2.out.cell]; rfl
  cases b2 <;> cases b3
  all_goals
    go_wp2_with fail
    refine (fixed8n _ HB2.out HS2.out (by simp [be_len]; omega) (by decide)).mono ?_
    rintro e w3 ⟨rfl, sv3, hb, hw⟩
    have HM3 := Lib.hid (hw.blkB HM2.out hg HB2.out)
    have HW3 := Lib.hid (HW2.out.trans hw)
    have HS3 := Lib.hid (Nat.le_trans HS2.out hw.size)
    have HB3 := Lib.hid hb
    clear hw hb c2 c3
    go_wp2
    go_ret
    exact ⟨rfl, sv3, by have := HB3.out; simpa [bitv] using this, HW3.out⟩

set_option maxRecDepth 100000 in
set_option maxHeartbeats 4000000 in
/-- (*exchangeDeleteOk).write -/
theorem wr_exchangeDeleteOk {B bb g : Nat} {sv : Value} {xs : List UInt8} {w : World} (ex : List Value)  (hm : Blk w g 163 (ex).toArray) (hg : g < B) (hb : Buf w B 281 bb sv xs) (hB : B ≤ w.heap.size) (hx : xs.length ≤ 100) :
    Calls Tryz.prog 197 #[.pointer (some ⟨g, 0, none⟩), .iface 279 (.pointer (some ⟨bb, 0, none⟩))] w (Gave w B bb sv xs ([])) := by
  go_enter Tryz.func197, Tryz.ntmps197
  go_wp2
  go_ret
  exact Gave.nil hb

set_option maxRecDepth 100000 in
set_option maxHeartbeats 4000000 in
/-- (*exchangeBind).write -/
theorem wr_exchangeBind {B bb g : Nat} {sv : Value} {xs : List UInt8} {w : World} (ex : List Value) (t1 : ByteArray) (t2 : ByteArray) (t3 : ByteArray) (b4 : Bool) (m5 : Nat) (f5 : Fs) (hm : Blk w g 166 (.int .u16 0 :: .string t1 :: .string t2 :: .string t3 :: .bool b4 :: .map (some m5) :: ex).toArray) (hg : g < B) (hb : Buf w B 281 bb sv xs) (hB : B ≤ w.heap.size) (hx : xs.length ≤ 100) (h1 : t1.size ≤ 255) (h2 : t2.size ≤ 255) (h3 : t3.size ≤ 255) (h5 : TabV w (fun g => g < B) f5 m5) (g5 : f5.good none) (k5 : f5.ok) (e5 : f5.enc.length ≤ 20000) :
    Calls Tryz.prog 201 #[.pointer (some ⟨g, 0, none⟩), .iface 279 (.pointer (some ⟨bb, 0, none⟩))] w (Gave w B bb sv xs (be 0 2 ++ ((be t1.size 1 ++ t1.data.toList) ++ ((be t2.size 1 ++ t2.data.toList) ++ ((be t3.size 1 ++ t3.data.toList) ++ (be (bitv [b4]) 1 ++ (tab f5))))))) := by
  have HT5 := Lib.hid h5
  have HG5 := Lib.hid g5
  have HK5 := Lib.hid k5
  clear h5 g5 k5
  have HM0 := Lib.hid hm
  have HW0 := Lib.hid (Wr.refl w bb sv.ownBlock)
  have HB0 := Lib.hid hb
  have HS0 := Lib.hid hB
  clear hm hb hB
  go_enter Tryz.func201, Tryz.ntmps201
  have c0 : w.cell? ⟨g, 0, none⟩ = some (.int .u16 0) := by rw [HM0.out.cell]; rfl
  have HC0 := Lib.hid (fixed16 0 HB0.out HS0.out (by omega) (by omega))
  go_wp2_with fail
  refine HC0.out.mono ?_
  clear HC0
  rintro e w1 ⟨rfl, sv1, hb, hw⟩
  have HM1 := Lib.hid (hw.blkB HM0.out hg HB0.out)
  have HW1 := Lib.hid (HW0.out.trans hw)
  have HS1 := Lib.hid (Nat.le_trans HS0.out hw.size)
  have HB1 := Lib.hid hb
  clear hw hb c0
  have c1 : w1.cell? ⟨g, 1, none⟩ = some (.string t1) := by rw [HM1.out.cell]; rfl
  have HC1 := Lib.hid (wshortn t1 HB1.out HS1.out (by simp [be_len]; omega) h1)
  go_wp2_with fail
  refine HC1.out.mono ?_
  clear HC1
  rintro e w2 ⟨rfl, sv2, hb, hw⟩
  have HM2 := Lib.hid (hw.blkB HM1.out hg HB1.out)
  have HW2 := Lib.hid (HW1.out.trans hw)
  have HS2 := Lib.hid (Nat.le_trans HS1.out hw.size)
  have HB2 := Lib.hid hb
  clear hw hb c1
  have c2 : w2.cell? ⟨g, 2, none⟩ = some (.string t2) := by rw [HM2.out.cell]; rfl
  have HC2 := Lib.hid (wshortn t2 HB2.out HS2.out (by simp [be_len]; omega) h2)
  go_wp2_with fail
  refine HC2.out.mono ?_
  clear HC2
  rintro e w3 ⟨rfl, sv3, hb, hw⟩
  have HM3 := Lib.hid (hw.blkB HM2.out hg HB2.out)
  have HW3 := Lib.hid (HW2.out.trans hw)
  have HS3 := Lib.hid (Nat.le_trans HS2.out hw.size)
  have HB3 := Lib.hid hb
  clear hw hb c2
  have c3 : w3.cell? ⟨g, 3, none⟩ = some (.string t3) := by rw [HM3.out.cell]; rfl
  have HC3 := Lib.hid (wshortn t3 HB3.out HS3.out (by simp [be_len]; omega) h3)
  go_wp2_with fail
  refine HC3.out.mono ?_
  clear HC3
  rintro e w4 ⟨rfl, sv4, hb, hw⟩
  have HM4 := Lib.hid (hw.blkB HM3.out hg HB3.out)
  have HW4 := Lib.hid (HW3.out.trans hw)
  have HS4 := Lib.hid (Nat.le_trans HS3.out hw.size)
  have HB4 := Lib.hid hb
  clear hw hb c3
  have c4 : w4.cell? ⟨g, 4, none⟩ = some (.bool b4) := by rw [HM4.out.cell]; rfl
  cases b4
  all_goals
    go_wp2_with fail
    refine (fixed8n _ HB4.out HS4.out (by simp [be_len]; omega) (by decide)).mono ?_
    rintro e w5 ⟨rfl, sv5, hb, hw⟩
    have HM5 := Lib.hid (hw.blkB HM4.out hg HB4.out)
    have HW5 := Lib.hid (HW4.out.trans hw)
    have HS5 := Lib.hid (Nat.le_trans HS4.out hw.size)
    have HB5 := Lib.hid hb
    clear hw hb c4
    have c5 : w5.cell? ⟨g, 5, none⟩ = some (.map (some m5)) := by rw [HM5.out.cell]; rfl
    have HC5 := Lib.hid (wtabn HG5.out HK5.out (HT5.out) HW5.out HB0.out HS0.out HB5.out HS5.out e5 (by simp [be_len]; omega))
    go_wp2_with fail
    refine HC5.out.mono ?_
    clear HC5
    rintro e w6 ⟨rfl, sv6, hb, hw⟩
    have HM6 := Lib.hid (hw.blkB HM5.out hg HB5.out)
    have HW6 := Lib.hid (HW5.out.trans hw)
    have HS6 := Lib.hid (Nat.le_trans HS5.out hw.size)
    have HB6 := Lib.hid hb
    clear hw hb c5
    go_wp2
    go_ret
    exact ⟨rfl, sv6, by have := HB6.out; simpa [bitv] using this, HW6.out⟩

set_option maxRecDepth 100000 in
set_option maxHeartbeats 4000000 in
/-- (*exchangeBindOk).write -/
theorem wr_exchangeBindOk {B bb g : Nat} {sv : Value} {xs : List UInt8} {w : World} (ex : List Value)  (hm : Blk w g 168 (ex).toArray) (hg : g < B) (hb : Buf w B 281 bb sv xs) (hB : B ≤ w.heap.size) (hx : xs.length ≤ 100) :
    Calls Tryz.prog 205 #[.pointer (some ⟨g, 0, none⟩), .iface 279 (.pointer (some ⟨bb, 0, none⟩))] w (Gave w B bb sv xs ([])) := by
  go_enter Tryz.func205, Tryz.ntmps205
  go_wp2
  go_ret
  exact Gave.nil hb

set_option maxRecDepth 100000 in
set_option maxHeartbeats 4000000 in
/-- (*exchangeUnbind).write -/
theorem wr_exchangeUnbind {B bb g : Nat} {sv : Value} {xs : List UInt8} {w : World} (ex : List Value) (t1 : ByteArray) (t2 : ByteArray) (t3 : ByteArray) (b4 : Bool) (m5 : Nat) (f5 : Fs) (hm : Blk w g 170 (.int .u16 0 :: .string t1 :: .string t2 :: .string t3 :: .bool b4 :: .map (some m5) :: ex).toArray) (hg : g < B) (hb : Buf w B 281 bb sv xs) (hB : B ≤ w.heap.size) (hx : xs.length ≤ 100) (h1 : t1.size ≤ 255) (h2 : t2.size ≤ 255) (h3 : t3.size ≤ 255) (h5 : TabV w (fun g => g < B) f5 m5) (g5 : f5.good none) (k5 : f5.ok) (e5 : f5.enc.length ≤ 20000) :
    Calls Tryz.prog 209 #[.pointer (some ⟨g, 0, none⟩), .iface 279 (.pointer (some ⟨bb, 0, none⟩))] w (Gave w B bb sv xs (be 0 2 ++ ((be t1.size 1 ++ t1.data.toList) ++ ((be t2.size 1 ++ t2.data.toList) ++ ((be t3.size 1 ++ t3.data.toList) ++ (be (bitv [b4]) 1 ++ (tab f5))))))) := by
  have HT5 := Lib.hid h5
  have HG5 := Lib.hid g5
  have HK5 := Lib.hid k5
  clear h5 g5 k5
  have HM0 := Lib.hid hm
  have HW0 := Lib.hid (Wr.refl w bb sv.ownBlock)
  have HB0 := Lib.hid hb
  have HS0 := Lib.hid hB
  clear hm hb hB
  go_enter Tryz.func209, Tryz.ntmps209
  have c0 : w.cell? ⟨g, 0, none⟩ = some (.int .u16 0) := by rw [HM0.out.cell]; rfl
  have HC0 := Lib.hid (fixed16 0 HB0.out HS0.out (by omega) (by omega))
  go_wp2_with fail
  refine HC0.out.mono ?_
  clear HC0
  rintro e w1 ⟨rfl, sv1, hb, hw⟩
  have HM1 := Lib.hid (hw.blkB HM0.out hg HB0.out)
  have HW1 := Lib.hid (HW0.out.trans hw)
  have HS1 := Lib.hid (Nat.le_trans HS0.out hw.size)
  have HB1 := Lib.hid hb
  clear hw hb c0
  have c1 : w1.cell? ⟨g, 1, none⟩ = some (.string t1) := by rw [HM1.out.cell]; rfl
  have HC1 := Lib.hid (wshortn t1 HB1.out HS1.out (by simp [be_len]; omega) h1)
  go_wp2_with fail
  refine HC1.out.mono ?_
  clear HC1
  rintro e w2 ⟨rfl, sv2, hb, hw⟩
  have HM2 := Lib.hid (hw.blkB HM1.out hg HB1.out)
  have HW2 := Lib.hid (HW1.out.trans hw)
  have HS2 := Lib.hid (Nat.le_trans HS1.out hw.size)
  have HB2 := Lib.hid hb
  clear hw hb c1
  have c2 : w2.cell? ⟨g, 2, none⟩ = some (.string t2) := by rw [HM2.out.cell]; rfl
  have HC2 := Lib.hid (wshortn t2 HB2.out HS2.out (by simp [be_len]; omega) h2)
  go_wp2_with fail
  refine HC2.out.mono ?_
  clear HC2
  rintro e w3 ⟨rfl, sv3, hb, hw⟩
  have HM3 := Lib.hid (hw.blkB HM2.out hg HB2.out)
  have HW3 := Lib.hid (HW2.out.trans hw)
  have HS3 := Lib.hid (Nat.le_trans HS2.out hw.size)
  have HB3 := Lib.hid hb
  clear hw hb c2
  have c3 : w3.cell? ⟨g, 3, none⟩ = some (.string t3) := by rw [HM3.out.cell]; rfl
  have HC3 := Lib.hid (wshortn t3 HB3.out HS3.out (by simp [be_len]; omega) h3)
  go_wp2_with fail
  refine HC3.out.mono ?_
  clear HC3
  rintro e w4 ⟨rfl, sv4, hb, hw⟩
  have HM4 := Lib.hid (hw.blkB HM3.out hg HB3.out)
  have HW4 := Lib.hid (HW3.out.trans hw)
  have HS4 := Lib.hid (Nat.le_trans HS3.out hw.size)
  have HB4 := Lib.hid hb
  clear hw hb c3
  have c4 : w4.cell? ⟨g, 4, none⟩ = some (.bool b4) := by rw [HM4.out.cell]; rfl
  cases b4
  all_goals
    go_wp2_with fail
    refine (fixed8n _ HB4.out HS4.out (by simp [be_len]; omega) (by decide)).mono ?_
    rintro e w5 ⟨rfl, sv5, hb, hw⟩
    have HM5 := Lib.hid (hw.blkB HM4.out hg HB4.out)
    have HW5 := Lib.hid (HW4.out.trans hw)
    have HS5 := Lib.hid (Nat.le_trans HS4.out hw.size)
    have HB5 := Lib.hid hb
    clear hw hb c4
    have c5 : w5.cell? ⟨g, 5, none⟩ = some (.map (some m5)) := by rw [HM5.out.cell]; rfl
    have HC5 := Lib.hid (wtabn HG5.out HK5.out (HT5.out) HW5.out HB0.out HS0.out HB5.out HS5.out e5 (by simp [be_len]; omega))
    go_wp2_with fail
    refine HC5.out.mono ?_
    clear HC5
    rintro e w6 ⟨rfl, sv6, hb, hw⟩
    have HM6 := Lib.hid (hw.blkB HM5.out hg HB5.out)
    have HW6 := Lib.hid (HW5.out.trans hw)
    have HS6 := Lib.hid (Nat.le_trans HS5.out hw.size)
    have HB6 := Lib.hid hb
    clear hw hb c5
    go_wp2
    go_ret
    exact ⟨rfl, sv6, by have := HB6.out; simpa [bitv] using this, HW6.out⟩

set_option maxRecDepth 100000 in
set_option maxHeartbeats 4000000 in
/-- (*exchangeUnbindOk).write -/
theorem wr_exchangeUnbindOk {B bb g : Nat} {sv : Value} {xs : List UInt8} {w : World} (ex : List Value)  (hm : Blk w g 172 (ex).toArray) (hg : g < B) (hb : Buf w B 281 bb sv xs) (hB : B ≤ w.heap.size) (hx : xs.length ≤ 100) :
    Calls Tryz.prog 213 #[.pointer (some ⟨g, 0, none⟩), .iface 279 (.pointer (some ⟨bb, 0, none⟩))] w (Gave w B bb sv xs ([])) := by
  go_enter Tryz.func213, Tryz.ntmps213
  go_wp2
  go_ret
  exact Gave.nil hb

set_option maxRecDepth 100000 in
set_option maxHeartbeats 4000000 in
/-- (*queueDeclare).write -/
theorem wr_queueDeclare {B bb g : Nat} {sv : Value} {xs : List UInt8} {w : World} (ex : List Value) (t1 : ByteArray) (b2 : Bool) (b3 : Bool) (b4 : Bool) (b5 : Bool) (b6 : Bool) (m7 : Nat) (f7 : Fs) (hm : Blk w g 175 (.int .u16 0 :: .string t1 :: .bool b2 :: .bool b3 :: .bool b4 :: .bool b5 :: .bool b6 :: .map (some m7) :: ex).toArray) (hg : g < B) (hb : Buf w B 281 bb sv xs) (hB : B ≤ w.heap.size) (hx : xs.length ≤ 100) (h1 : t1.size ≤ 255) (h7 : TabV w (fun g => g < B) f7 m7) (g7 : f7.good none) (k7 : f7.ok) (e7 : f7.enc.length ≤ 20000) :
    Calls Tryz.prog 217 #[.pointer (some ⟨g, 0, none⟩), .iface 279 (.pointer (some ⟨bb, 0, none⟩))] w (Gave w B bb sv xs (be 0 2 ++ ((be t1.size 1 ++ t1.data.toList) ++ (be (bitv [b2, b3, b4, b5, b6]) 1 ++ (tab f7))))) := by
  have HT7 := Lib.hid h7
  have HG7 := Lib.hid g7
  have HK7 := Lib.hid k7
  clear h7 g7 k7
  have HM0 := Lib.hid hm
  have HW0 := Lib.hid (Wr.refl w bb sv.ownBlock)
  have HB0 := Lib.hid hb
  have HS0 := Lib.hid hB
  clear hm hb hB
  go_enter Tryz.func217, Tryz.ntmps217
  have c0 : w.cell? ⟨g, 0, none⟩ = some (.int .u16 0) := by rw [HM0.out.cell]; rfl
  have HC0 := Lib.hid (fixed16 0 HB0.out HS0.out (by omega) (by omega))
  go_wp2_with fail
  refine HC0.out.mono ?_
  clear HC0
  rintro e w1 ⟨rfl, sv1, hb, hw⟩
  have HM1 := Lib.hid (hw.blkB HM0.out hg HB0.out)
  have HW1 := Lib.hid (HW0.out.trans hw)
  have HS1 := Lib.hid (Nat.le_trans HS0.out hw.size)
  have HB1 := Lib.hid hb
  clear hw hb c0
  have c1 : w1.cell? ⟨g, 1, none⟩ = some (.string t1) := by rw [HM1.out.cell]; rfl
  have HC1 := Lib.hid (wshortn t1 HB1.out HS1.out (by simp [be_len]; omega) h1)
  go_wp2_with fail
  refine HC1.out.mono ?_
  clear HC1
  rintro e w2 ⟨rfl, sv2, hb, hw⟩
  have HM2 := Lib.hid (hw.blkB HM1.out hg HB1.out)
  have HW2 := Lib.hid (HW1.out.trans hw)
  have HS2 := Lib.hid (Nat.le_trans HS1.out hw.size)
  have HB2 := Lib.hid hb
  clear hw hb c1
  have c2 : w2.cell? ⟨g, 2, none⟩ = some (.bool b2) := by rw [HM2.out.cell]; rfl
  have c3 : w2.cell? ⟨g, 3, none⟩ = some (.bool b3) := by rw [HM2.out.cell]; rfl
  have c4 : w2.cell? ⟨g, 4, none⟩ = some (.bool b4) := by rw [HM2.out.cell]; rfl
  have c5 : w2.cell? ⟨g, 5, none⟩ = some (.bool b5) := by rw [HM2.out.cell]; rfl
  have c6 : w2.cell? ⟨g, 6, none⟩ = some (.bool b6) := by rw [HM2.out.cell]; rfl
  cases b2 <;> cases b3 <;> cases b4 <;> cases b5 <;> cases b6
  all_goals
    go_wp2_with fail
    refine (fixed8n _ HB2.out HS2.out (by simp [be_len]; omega) (by decide)).mono ?_
    rintro e w3 ⟨rfl, sv3, hb, hw⟩
    have HM3 := Lib.hid (hw.blkB HM2.out hg HB2.out)
    have HW3 := Lib.hid (HW2.out.trans hw)
    have HS3 := Lib.hid (Nat.le_trans HS2.out hw.size)
    have HB3 := Lib.hid hb
    clear hw hb c2 c3 c4 c5 c6
    have c7 : w3.cell? ⟨g, 7, none⟩ = some (.map (some m7)) := by rw [HM3.out.cell]; rfl
    have HC3 := Lib.hid (wtabn HG7.out HK7.out (HT7.out) HW3.out HB0.out HS0.out HB3.out HS3.out e7 (by simp [be_len]; omega))
    go_wp2_with fail
    refine HC3.out.mono ?_
    clear HC3
    rintro e w4 ⟨rfl, sv4, hb, hw⟩
    have HM4 := Lib.hid (hw.blkB HM3.out hg HB3.out)
    have HW4 := Lib.hid (HW3.out.trans hw)
    have HS4 := Lib.hid (Nat.le_trans HS3.out hw.size)
    have HB4 := Lib.hid hb
    clear hw hb c7
    go_wp2
    go_ret
    exact ⟨rfl, sv4, by have := HB4.out; simpa [bitv] using this, HW4.out⟩

set_option maxRecDepth 100000 in
set_option maxHeartbeats 4000000 in
/-- (*queueDeclareOk).write -/
theorem wr_queueDeclareOk {B bb g : Nat} {sv : Value} {xs : List UInt8} {w : World} (ex : List Value) (t0 : ByteArray) (n1 : Nat) (n2 : Nat) (hm : Blk w g 178 (.string t0 :: .int .u32 n1 :: .int .u32 n2 :: ex).toArray) (hg : g < B) (hb : Buf w B 281 bb sv xs) (hB : B ≤ w.heap.size) (hx : xs.length ≤ 100) (h0 : t0.size ≤ 255) (h1 : n1 < 4294967296) (h2 : n2 < 4294967296) :
    Calls Tryz.prog 221 #[.pointer (some ⟨g, 0, none⟩), .iface 279 (.pointer (some ⟨bb, 0, none⟩))] w (Gave w B bb sv xs ((be t0.size 1 ++ t0.data.toList) ++ (be n1 4 ++ (be n2 4)))) := by
  have HM0 := Lib.hid hm
  have HW0 := Lib.hid (Wr.refl w bb sv.ownBlock)
  have HB0 := Lib.hid hb
  have HS0 := Lib.hid hB
  clear hm hb hB
  go_enter Tryz.func221, Tryz.ntmps221
  have c0 : w.cell? ⟨g, 0, none⟩ = some (.string t0) := by rw [HM0.out.cell]; rfl
  have HC0 := Lib.hid (wshortn t0 HB0.out HS0.out (by omega) h0)
  go_wp2_with fail
  refine HC0.out.mono ?_
  clear HC0
  rintro e w1 ⟨rfl, sv1, hb, hw⟩
  have HM1 := Lib.hid (hw.blkB HM0.out hg HB0.out)
  have HW1 := Lib.hid (HW0.out.trans hw)
  have HS1 := Lib.hid (Nat.le_trans HS0.out hw.size)
  have HB1 := Lib.hid hb
  clear hw hb c0
  have c1 : w1.cell? ⟨g, 1, none⟩ = some (.int .u32 n1) := by rw [HM1.out.cell]; rfl
  have HC1 := Lib.hid (fixed32 n1 HB1.out HS1.out (by simp [be_len]; omega) h1)
  go_wp2_with fail
  refine HC1.out.mono ?_
  clear HC1
  rintro e w2 ⟨rfl, sv2, hb, hw⟩
  have HM2 := Lib.hid (hw.blkB HM1.out hg HB1.out)
  have HW2 := Lib.hid (HW1.out.trans hw)
  have HS2 := Lib.hid (Nat.le_trans HS1.out hw.size)
  have HB2 := Lib.hid hb
  clear hw hb c1
  have c2 : w2.cell? ⟨g, 2, none⟩ = some (.int .u32 n2) := by rw [HM2.out.cell]; rfl
  have HC2 := Lib.hid (fixed32 n2 HB2.out HS2.out (by simp [be_len]; omega) h2)
  go_wp2_with fail
  refine HC2.out.mono ?_
  clear HC2
  rintro e w3 ⟨rfl, sv3, hb, hw⟩
  have HM3 := Lib.hid (hw.blkB HM2.out hg HB2.out)
  have HW3 := Lib.hid (HW2.out.trans hw)
  have HS3 := Lib.hid (Nat.le_trans HS2.out hw.size)
  have HB3 := Lib.hid hb
  clear hw hb c2
  go_wp2
  go_ret
  exact ⟨rfl, sv3, by have := HB3.out; simpa using this, HW3.out⟩

set_option maxRecDepth 100000 in
set_option maxHeartbeats 4000000 in
/-- (*queueBind).write -/
theorem wr_queueBind {B bb g : Nat} {sv : Value} {xs : List UInt8} {w : World} (ex : List Value) (t1 : ByteArray) (t2 : ByteArray) (t3 : ByteArray) (b4 : Bool) (m5 : Nat) (f5 : Fs) (hm : Blk w g 181 (.int .u16 0 :: .string t1 :: .string t2 :: .string t3 :: .bool b4 :: .map (some m5) :: ex).toArray) (hg : g < B) (hb : Buf w B 281 bb sv xs) (hB : B ≤ w.heap.size) (hx : xs.length ≤ 100) (h1 : t1.size ≤ 255) (h2 : t2.size ≤ 255) (h3 : t3.size ≤ 255) (h5 : TabV w (fun g => g < B) f5 m5) (g5 : f5.good none) (k5 : f5.ok) (e5 : f5.enc.length ≤ 20000) :
    Calls Tryz.prog 225 #[.pointer (some ⟨g, 0, none⟩), .iface 279 (.pointer (some ⟨bb, 0, none⟩))] w (Gave w B bb sv xs (be 0 2 ++ ((be t1.size 1 ++ t1.data.toList) ++ ((be t2.size 1 ++ t2.data.toList) ++ ((be t3.size 1 ++ t3.data.toList) ++ (be (bitv [b4]) 1 ++ (tab f5))))))) := by
  have HT5 := Lib.hid h5
  have HG5 := Lib.hid g5
  have HK5 := Lib.hid k5
  clear h5 g5 k5
  have HM0 := Lib.hid hm
  have HW0 := Lib.hid (Wr.refl w bb sv.ownBlock)
  have HB0 := Lib.hid hb
  have HS0 := Lib.hid hB
  clear hm hb hB
  go_enter Tryz.func225, Tryz.ntmps225
  have c0 : w.cell? ⟨g, 0, none⟩ = some (.int .u16 0) := by rw [HM0.out.cell]; rfl
  have HC0 := Lib.hid (fixed16 0 HB0.out HS0.out (by omega) (by omega))
  go_wp2_with fail
  refine HC0.out.mono ?_
  clear HC0
  rintro e w1 ⟨rfl, sv1, hb, hw⟩
  have HM1 := Lib.hid (hw.blkB HM0.out hg HB0.out)
  have HW1 := Lib.hid (HW0.out.trans hw)
  have HS1 := Lib.hid (Nat.le_trans HS0.out hw.size)
  have HB1 := Lib.hid hb
  clear hw hb c0
  have c1 : w1.cell? ⟨g, 1, none⟩ = some (.string t1) := by rw [HM1.out.cell]; rfl
  have HC1 := Lib.hid (wshortn t1 HB1.out HS1.out (by simp [be_len]; omega) h1)
  go_wp2_with fail
  refine HC1.out.mono ?_
  clear HC1
  rintro e w2 ⟨rfl, sv2, hb, hw⟩
  have HM2 := Lib.hid (hw.blkB HM1.out hg HB1.out)
  have HW2 := Lib.hid (HW1.out.trans hw)
  have HS2 := Lib.hid (Nat.le_trans HS1.out hw.size)
  have HB2 := Lib.hid hb
  clear hw hb c1
  have c2 : w2.cell? ⟨g, 2, none⟩ = some (.string t2) := by rw [HM2.out.cell]; rfl
  have HC2 := Lib.hid (wshortn t2 HB2.out HS2.out (by simp [be_len]; omega) h2)
  go_wp2_with fail
  refine HC2.out.mono ?_
  clear HC2
  rintro e w3 ⟨rfl, sv3, hb, hw⟩
  have HM3 := Lib.hid (hw.blkB HM2.out hg HB2.out)
  have HW3 := Lib.hid (HW2.out.trans hw)
  have HS3 := Lib.hid (Nat.le_trans HS2.out hw.size)
  have HB3 := Lib.hid hb
  clear hw hb c2
  have c3 : w3.cell? ⟨g, 3, none⟩ = some (.string t3) := by rw [HM3.out.cell]; rfl
  have HC3 := Lib.hid (wshortn t3 HB3.out HS3.out (by simp [be_len]; omega) h3)
  go_wp2_with fail
  refine HC3.out.mono ?_
  clear HC3
  rintro e w4 ⟨rfl, sv4, hb, hw⟩
  have HM4 := Lib.hid (hw.blkB HM3.out hg HB3.out)
  have HW4 := Lib.hid (HW3.out.trans hw)
  have HS4 := Lib.hid (Nat.le_trans HS3.out hw.size)
  have HB4 := Lib.hid hb
  clear hw hb c3
  have c4 : w4.cell? ⟨g, 4, none⟩ = some (.bool b4) := by rw [HM4.out.cell]; rfl
  cases b4
  all_goals
    go_wp2_with fail
    refine (fixed8n _ HB4.out HS4.out (by simp [be_len]; omega) (by decide)).mono ?_
    rintro e w5 ⟨rfl, sv5, hb, hw⟩
    have HM5 := Lib.hid (hw.blkB HM4.out hg HB4.out)
    have HW5 := Lib.hid (HW4.out.trans hw)
    have HS5 := Lib.hid (Nat.le_trans HS4.out hw.size)
    have HB5 := Lib.hid hb
    clear hw hb c4
    have c5 : w5.cell? ⟨g, 5, none⟩ = some (.map (some m5)) := by rw [HM5.out.cell]; rfl
    have HC5 := Lib.hid (wtabn HG5.out HK5.out (HT5.out) HW5.out HB0.out HS0.out HB5.out HS5.out e5 (by simp [be_len]; omega))
    go_wp2_with fail
    refine HC5.out.mono ?_
    clear HC5
    rintro e w6 ⟨rfl, sv6, hb, hw⟩
    have HM6 := Lib.hid (hw.blkB HM5.out hg HB5.out)
    have HW6 := Lib.hid (HW5.out.trans hw)
    have HS6 := Lib.hid (Nat.le_trans HS5.out hw.size)
    have HB6 := Lib.hid hb
    clear hw hb c5
    go_wp2
    go_ret
    exact ⟨rfl, sv6, by have := HB6.out; simpa [bitv] using this, HW6.out⟩

set_option maxRecDepth 100000 in
set_option maxHeartbeats 4000000 in
/-- (*queueBindOk).write -/
theorem wr_queueBindOk {B bb g : Nat} {sv : Value} {xs : List UInt8} {w : World} (ex : List Value)  (hm : Blk w g 183 (ex).toArray) (hg : g < B) (hb : Buf w B 281 bb sv xs) (hB : B ≤ w.heap.size) (hx : xs.length ≤ 100) :
    Calls Tryz.prog 229 #[.pointer (some ⟨g, 0, none⟩), .iface 279 (.pointer (some ⟨bb, 0, none⟩))] w (Gave w B bb sv xs ([])) := by
  go_enter Tryz.func229, Tryz.ntmps229
  go_wp2
  go_ret
  exact Gave.nil hb

set_option maxRecDepth 100000 in
set_option maxHeartbeats 4000000 in
/-- (*queueUnbind).write -/
theorem wr_queueUnbind {B bb g : Nat} {sv : Value} {xs : List UInt8} {w : World} (ex : List Value) (t1 : ByteArray) (t2 : ByteArray) (t3 : ByteArray) (m4 : Nat) (f4 : Fs) (hm : Blk w g 186 (.int .u16 0 :: .string t1 :: .string t2 :: .string t3 :: .map (some m4) :: ex).toArray) (hg : g < B) (hb : Buf w B 281 bb sv xs) (hB : B ≤ w.heap.size) (hx : xs.length ≤ 100) (h1 : t1.size ≤ 255) (h2 : t2.size ≤ 255) (h3 : t3.size ≤ 255) (h4 : TabV w (fun g => g < B) f4 m4) (g4 : f4.good none) (k4 : f4.ok) (e4 : f4.enc.length ≤ 20000) :
    Calls Tryz.prog 233 #[.pointer (some ⟨g, 0, none⟩), .iface 279 (.pointer (some ⟨bb, 0, none⟩))] w (Gave w B bb sv xs (be 0 2 ++ ((be t1.size 1 ++ t1.data.toList) ++ ((be t2.size 1 ++ t2.data.toList) ++ ((be t3.size 1 ++ t3.data.toList) ++ (tab f4)))))) := by
  have HT4 := Lib.hid h4
  have HG4 := Lib.hid g4
  have HK4 := Lib.hid k4
  clear h4 g4 k4
  have HM0 := Lib.hid hm
  have HW0 := Lib.hid (Wr.refl w bb sv.ownBlock)
  have HB0 := Lib.hid hb
  have HS0 := Lib.hid hB
  clear hm hb hB
  go_enter Tryz.func233, Tryz.ntmps233
  have c0 : w.cell? ⟨g, 0, none⟩ = some (.int .u16 0) := by rw [HM0.out.cell]; rfl
  have HC0 := Lib.hid (fixed16 0 HB0.out HS0.out (by omega) (by omega))
  go_wp2_with fail
  refine HC0.out.mono ?_
  clear HC0
  rintro e w1 ⟨rfl, sv1, hb, hw⟩
  have HM1 := Lib.hid (hw.blkB HM0.out hg HB0.out)
  have HW1 := Lib.hid (HW0.out.trans hw)
  have HS1 := Lib.hid (Nat.le_trans HS0.out hw.size)
  have HB1 := Lib.hid hb
  clear hw hb c0
  have c1 : w1.cell? ⟨g, 1, none⟩ = some (.string t1) := by rw [HM1.out.cell]; rfl
  have HC1 := Lib.hid (wshortn t1 HB1.out HS1.out (by simp [be_len]; omega) h1)
  go_wp2_with fail
  refine HC1.out.mono ?_
  clear HC1
  rintro e w2 ⟨rfl, sv2, hb, hw⟩
  have HM2 := Lib.hid (hw.blkB HM1.out hg HB1.out)
  have HW2 := Lib.hid (HW1.out.trans hw)
  have HS2 := Lib.hid (Nat.le_trans HS1.out hw.size)
  have HB2 := Lib.hid hb
  clear hw hb c1
  have c2 : w2.cell? ⟨g, 2, none⟩ = some (.string t2) := by rw [HM2.out.cell]; rfl
  have HC2 := Lib.hid (wshortn t2 HB2.out HS2.out (by simp [be_len]; omega) h2)
  go_wp2_with fail
  refine HC2.out.mono ?_
  clear HC2
  rintro e w3 ⟨rfl, sv3, hb, hw⟩
  have HM3 := Lib.hid (hw.blkB HM2.out hg HB2.out)
  have HW3 := Lib.hid (HW2.out.trans hw)
  have HS3 := Lib.hid (Nat.le_trans HS2.out hw.size)
  have HB3 := Lib.hid hb
  clear hw hb c2
  have c3 : w3.cell? ⟨g, 3, none⟩ = some (.string t3) := by rw [HM3.out.cell]; rfl
  have HC3 := Lib.hid (wshortn t3 HB3.out HS3.out (by simp [be_len]; omega) h3)
  go_wp2_with fail
  refine HC3.out.mono ?_
  clear HC3
  rintro e w4 ⟨rfl, sv4, hb, hw⟩
  have HM4 := Lib.hid (hw.blkB HM3.out hg HB3.out)
  have HW4 := Lib.hid (HW3.out.trans hw)
  have HS4 := Lib.hid (Nat.le_trans HS3.out hw.size)
  have HB4 := Lib.hid hb
  clear hw hb c3
  have c4 : w4.cell? ⟨g, 4, none⟩ = some (.map (some m4)) := by rw [HM4.out.cell]; rfl
  have HC4 := Lib.hid (wtabn HG4.out HK4.out (HT4.out) HW4.out HB0.out HS0.out HB4.out HS4.out e4 (by simp [be_len]; omega))
  go_wp2_with fail
  refine HC4.out.mono ?_
  clear HC4
  rintro e w5 ⟨rfl, sv5, hb, hw⟩
  have HM5 := Lib.hid (hw.blkB HM4.out hg HB4.out)
  have HW5 := Lib.hid (HW4.out.trans hw)
  have HS5 := Lib.hid (Nat.le_trans HS4.out hw.size)
  have HB5 := Lib.hid hb
  clear hw hb c4
  go_wp2
  go_ret
  exact ⟨rfl, sv5, by have := HB5.out; simpa using this, HW5.out⟩

set_option maxRecDepth 100000 in
set_option maxHeartbeats 4000000 in
/-- (*queueUnbindOk).write -/
theorem wr_queueUnbindOk {B bb g : Nat} {sv : Value} {xs : List UInt8} {w : World} (ex : List Value)  (hm : Blk w g 188 (ex).toArray) (hg : g < B) (hb : Buf w B 281 bb sv xs) (hB : B ≤ w.heap.size) (hx : xs.length ≤ 100) :
    Calls Tryz.prog 237 #[.pointer (some ⟨g, 0, none⟩), .iface 279 (.pointer (some ⟨bb, 0, none⟩))] w (Gave w B bb sv xs ([])) := by
  go_enter Tryz.func237, Tryz.ntmps237
  go_wp2
  go_ret
  exact Gave.nil hb

end Go.Proofs.YtabeppaehenefaaGreat
