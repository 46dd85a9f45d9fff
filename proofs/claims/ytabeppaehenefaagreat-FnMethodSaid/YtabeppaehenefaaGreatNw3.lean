/-
  FnMethod: the methods' write functions, part 3 (printed by a program).
  FnMethod: the methods' write functions, part 4 (printed by a program).
-/
import Derived.Test.YtabeppaehenefaaGreatNa
namespace Go.Proofs.YtabeppaehenefaaGreat
open Go.RowKit
attribute [local go_sem ↓] Go.wp_at_zero Go.wp_at_succ
set_option linter.unusedVariables false

set_option maxRecDepth 100000 in
set_option maxHeartbeats 4000000 in
/-- (*queuePurge).write -/
theorem wr_queuePurge {B bb g : Nat} {sv : Value} {xs : List UInt8} {w : World} (ex : List Value) (t1 : ByteArray) (b2 : Bool) (hm : Blk w g 191 (.int .u16 0 :: .string t1 :: .bool b2 :: ex).toArray) (hg : g < B) (hb : Buf w B 281 bb sv xs) (hB : B ≤ w.heap.size) (hx : xs.length ≤ 100) (h1 : t1.size ≤ 255) :
    Calls Tryz.prog 241 #[.pointer (some ⟨g, 0, none⟩), .iface 279 (.pointer (some ⟨bb, 0, none⟩))] w (Gave w B bb sv xs (be 0 2 ++ ((be t1.size 1 ++ t1.data.toList) ++ (be (bitv [b2]) 1)))) := by
  have HM0 := Lib.hid hm
  have HW0 := Lib.hid (Wr.refl w bb sv.ownBlock)
  have HB0 := Lib.hid hb
  have HS0 := Lib.hid hB
  clear hm hb hB
  go_enter Tryz.func241, Tryz.ntmps241
  have c0 : w.cell? ⟨g, 0, none⟩ = some (.int .u16 0) := by rw [HM0.out.cell]; rfl
  have HC0 := Lib.hid (fixed16 0 HB0.out HS0.out (by omega) (by omega))
  go_wp2_with fail
  refine HC0.out.mono ?_
  clear HC0
  rintro e w1 ⟨rfl, sv1, hb, hw⟩
  have HM1 := Lib.hid (hw.blkB HM0.out hg HB0.out)
  have HW1 := Lib.hid (HW0.out.trans hw)
  have HS1 := Lib.hid (Nat.le_trans HS0.out hw.size)
  have HB1 := Lib.hid hb
  clear hw hb c0
  have c1 : w1.cell? ⟨g, 1, none⟩ = some (.string t1) := by rw [HM1.out.cell]; rfl
  have HC1 := Lib.hid (wshortn t1 HB1.out HS1.out (by simp [be_len]; omega) h1)
  go_wp2_with fail
  refine HC1.out.mono ?_
  clear HC1
  rintro e w2 ⟨rfl, sv2, hb, hw⟩
  have HM2 := Lib.hid (hw.blkB HM1.out hg HB1.out)
  have HW2 := Lib.hid (HW1.out.trans hw)
  have HS2 := Lib.hid (Nat.le_trans HS1.out hw.size)
  have HB2 := Lib.hid hb
  clear hw hb c1
  have c2 : w2.cell? ⟨g, 2, none⟩ = some (.bool b2) := by rw [HM2.out.cell]; rfl
  cases b2
  all_goals
    go_wp2_with fail
    refine (fixed8n _ HB2.out HS2.out (by simp [be_len]; omega) (by decide)).mono ?_
    rintro e w3 ⟨rfl, sv3, hb, hw⟩
    have HM3 := Lib.hid (hw.blkB HM2.out hg HB2.out)
    have HW3 := Lib.hid (HW2.out.trans hw)
    have HS3 := Lib.hid (Nat.le_trans HS2.out hw.size)
    have HB3 := Lib.hid hb
    clear hw hb c2
    go_wp2
    go_ret
    exact ⟨rfl, sv3, by have := HB3.out; simpa [bitv] using this, HW3.out⟩

set_option maxRecDepth 100000 in
set_option maxHeartbeats 4000000 in
/-- (*queuePurgeOk).write -/
theorem wr_queuePurgeOk {B bb g : Nat} {sv : Value} {xs : List UInt8} {w : World} (ex : List Value) (n0 : Nat) (hm : Blk w g 194 (.int .u32 n0 :: ex).toArray) (hg : g < B) (hb : Buf w B 281 bb sv xs) (hB : B ≤ w.heap.size) (hx : xs.length ≤ 100) (h0 : n0 < 4294967296) :
    Calls Tryz.prog 245 #[.pointer (some ⟨g, 0, none⟩), .iface 279 (.pointer (some ⟨bb, 0, none⟩))] w (Gave w B bb sv xs (be n0 4)) := by
  have HM0 := Lib.hid hm
  have HW0 := Lib.hid (Wr.refl w bb sv.ownBlock)
  have HB0 := Lib.hid hb
  have HS0 := Lib.hid hB
  clear hm hb hB
  go_enter Tryz.func245, Tryz.ntmps245
  have c0 : w.cell? ⟨g, 0, none⟩ = some (.int .u32 n0) := by rw [HM0.out.cell]; rfl
  have HC0 := Lib.hid (fixed32 n0 HB0.out HS0.out (by omega) h0)
  go_wp2_with fail
  refine HC0.out.mono ?_
  clear HC0
  rintro e w1 ⟨rfl, sv1, hb, hw⟩
  have HM1 := Lib.hid (hw.blkB HM0.out hg HB0.out)
  have HW1 := Lib.hid (HW0.out.trans hw)
  have HS1 := Lib.hid (Nat.le_trans HS0.out hw.size)
  have HB1 := Lib.hid hb
  clear hw hb c0
  go_wp2
  go_ret
  exact ⟨rfl, sv1, by have := HB1.out; simpa using this, HW1.out⟩

set_option maxRecDepth 100000 in
set_option maxHeartbeats 4000000 in
/-- (*queueDelete).write -/
theorem wr_queueDelete {B bb g : Nat} {sv : Value} {xs : List UInt8} {w : World} (ex : List Value) (t1 : ByteArray) (b2 : Bool) (b3 : Bool) (b4 : Bool) (hm : Blk w g 197 (.int .u16 0 :: .string t1 :: .bool b2 :: .bool b3 :: .bool b4 :: ex).toArray) (hg : g < B) (hb : Buf w B 281 bb sv xs) (hB : B ≤ w.heap.size) (hx : xs.length ≤ 100) (h1 : t1.size ≤ 255) :
    Calls Tryz.prog 249 #[.pointer (some ⟨g, 0, none⟩), .iface 279 (.pointer (some ⟨bb, 0, none⟩))] w (Gave w B bb sv xs (be 0 2 ++ ((be t1.size 1 ++ t1.data.toList) ++ (be (bitv [b2, b3, b4]) 1)))) := by
  have HM0 := Lib.hid hm
  have HW0 := Lib.hid (Wr.refl w bb sv.ownBlock)
  have HB0 := Lib.hid hb
  have HS0 := Lib.hid hB
  clear hm hb hB
  go_enter Tryz.func249, Tryz.ntmps249
  have c0 : w.cell? ⟨g, 0, none⟩ = some (.int .u16 0) := by rw [HM0.out.cell]; rfl
  have HC0 := Lib.hid (fixed16 0 HB0.out HS0.out (by omega) (by omega))
  go_wp2_with fail
  refine HC0.out.mono ?_
  clear HC0
  rintro e w1 ⟨rfl, sv1, hb, hw⟩
  have HM1 := Lib.hid (hw.blkB HM0.out hg HB0.out)
  have HW1 := Lib.hid (HW0.out.trans hw)
  have HS1 := Lib.hid (Nat.le_trans HS0.out hw.size)
  have HB1 := Lib.hid hb
  clear hw hb c0
  have c1 : w1.cell? ⟨g, 1, none⟩ = some (.string t1) := by rw [HM1.out.cell]; rfl
  have HC1 := Lib.hid (wshortn t1 HB1.out HS1.out (by simp [be_len]; omega) h1)
  go_wp2_with fail
  refine HC1.out.mono ?_
  clear HC1
  rintro e w2 ⟨rfl, sv2, hb, hw⟩
  have HM2 := Lib.hid (hw.blkB HM1.out hg HB1.out)
  have HW2 := Lib.hid (HW1.out.trans hw)
  have HS2 := Lib.hid (Nat.le_trans HS1.out hw.size)
  have HB2 := Lib.hid hb
  clear hw hb c1
  have c2 : w2.cell? ⟨g, 2, none⟩ = some (.bool b2) := by rw [HM2.out.cell]; rfl
  have c3 : w2.cell? ⟨g, 3, none⟩ = some (.bool b3) := by rw [HM2.out.cell]; rfl
  have c4 : w2.cell? ⟨g, 4, none⟩ = some (.bool b4) := by rw [HM2.out.cell]; rfl
  cases b2 <;> cases b3 <;> cases b4
  all_goals
    go_wp2_with fail
    refine (fixed8n _ HB2.out HS2.out (by simp [be_len]; omega) (by decide)).mono ?_
    rintro e w3 ⟨rfl, sv3, hb, hw⟩
    have HM3 := Lib.hid (hw.blkB HM2.out hg HB2.out)
    have HW3 := Lib.hid (HW2.out.trans hw)
    have HS3 := Lib.hid (Nat.le_trans HS2.out hw.size)
    have HB3 := Lib.hid hb
    clear hw hb c2 c3 c4
    go_wp2
    go_ret
    exact ⟨rfl, sv3, by have := HB3.out; simpa [bitv] using this, HW3.out⟩

set_option maxRecDepth 100000 in
set_option maxHeartbeats 4000000 in
/-- (*queueDeleteOk).write -/
theorem wr_queueDeleteOk {B bb g : Nat} {sv : Value} {xs : List UInt8} {w : World} (ex : List Value) (n0 : Nat) (hm : Blk w g 199 (.int .u32 n0 :: ex).toArray) (hg : g < B) (hb : Buf w B 281 bb sv xs) (hB : B ≤ w.heap.size) (hx : xs.length ≤ 100) (h0 : n0 < 4294967296) :
    Calls Tryz.prog 253 #[.pointer (some ⟨g, 0, none⟩), .iface 279 (.pointer (some ⟨bb, 0, none⟩))] w (Gave w B bb sv xs (be n0 4)) := by
  have HM0 := Lib.hid hm
  have HW0 := Lib.hid (Wr.refl w bb sv.ownBlock)
  have HB0 := Lib.hid hb
  have HS0 := Lib.hid hB
  clear hm hb hB
  go_enter Tryz.func253, Tryz.ntmps253
  have c0 : w.cell? ⟨g, 0, none⟩ = some (.int .u32 n0) := by rw [HM0.out.cell]; rfl
  have HC0 := Lib.hid (fixed32 n0 HB0.out HS0.out (by omega) h0)
  go_wp2_with fail
  refine HC0.out.mono ?_
  clear HC0
  rintro e w1 ⟨rfl, sv1, hb, hw⟩
  have HM1 := Lib.hid (hw.blkB HM0.out hg HB0.out)
  have HW1 := Lib.hid (HW0.out.trans hw)
  have HS1 := Lib.hid (Nat.le_trans HS0.out hw.size)
  have HB1 := Lib.hid hb
  clear hw hb c0
  go_wp2
  go_ret
  exact ⟨rfl, sv1, by have := HB1.out; simpa using this, HW1.out⟩

set_option maxRecDepth 100000 in
set_option maxHeartbeats 4000000 in
/-- (*basicQos).write -/
theorem wr_basicQos {B bb g : Nat} {sv : Value} {xs : List UInt8} {w : World} (ex : List Value) (n0 : Nat) (n1 : Nat) (b2 : Bool) (hm : Blk w g 202 (.int .u32 n0 :: .int .u16 n1 :: .bool b2 :: ex).toArray) (hg : g < B) (hb : Buf w B 281 bb sv xs) (hB : B ≤ w.heap.size) (hx : xs.length ≤ 100) (h0 : n0 < 4294967296) (h1 : n1 < 65536) :
    Calls Tryz.prog 257 #[.pointer (some ⟨g, 0, none⟩), .iface 279 (.pointer (some ⟨bb, 0, none⟩))] w (Gave w B bb sv xs (be n0 4 ++ (be n1 2 ++ (be (bitv [b2]) 1)))) := by
  have HM0 := Lib.hid hm
  have HW0 := Lib.hid (Wr.refl w bb sv.ownBlock)
  have HB0 := Lib.hid hb
  have HS0 := Lib.hid hB
  clear hm hb hB
  go_enter Tryz.func257, Tryz.ntmps257
  have c0 : w.cell? ⟨g, 0, none⟩ = some (.int .u32 n0) := by rw [HM0.out.cell]; rfl
  have HC0 := Lib.hid (fixed32 n0 HB0.out HS0.out (by omega) h0)
  go_wp2_with fail
  refine HC0.out.mono ?_
  clear HC0
  rintro e w1 ⟨rfl, sv1, hb, hw⟩
  have HM1 := Lib.hid (hw.blkB HM0.out hg HB0.out)
  have HW1 := Lib.hid (HW0.out.trans hw)
  have HS1 := Lib.hid (Nat.le_trans HS0.out hw.size)
  have HB1 := Lib.hid hb
  clear hw hb c0
  have c1 : w1.cell? ⟨g, 1, none⟩ = some (.int .u16 n1) := by rw [HM1.out.cell]; rfl
  have HC1 := Lib.hid (fixed16 n1 HB1.out HS1.out (by simp [be_len]; omega) h1)
  go_wp2_with fail
  refine HC1.out.mono ?_
  clear HC1
  rintro e w2 ⟨rfl, sv2, hb, hw⟩
  have HM2 := Lib.hid (hw.blkB HM1.out hg HB1.out)
  have HW2 := Lib.hid (HW1.out.trans hw)
  have HS2 := Lib.hid (Nat.le_trans HS1.out hw.size)
  have HB2 := Lib.hid hb
  clear hw hb c1
  have c2 : w2.cell? ⟨g, 2, none⟩ = some (.bool b2) := by rw [HM2.out.cell]; rfl
  cases b2
  all_goals
    go_wp2_with fail
    refine (fixed8n _ HB2.out HS2.out (by simp [be_len]; omega) (by decide)).mono ?_
    rintro e w3 ⟨rfl, sv3, hb, hw⟩
    have HM3 := Lib.hid (hw.blkB HM2.out hg HB2.out)
    have HW3 := Lib.hid (HW2.out.trans hw)
    have HS3 := Lib.hid (Nat.le_trans HS2.out hw.size)
    have HB3 := Lib.hid hb
    clear hw hb c2
    go_wp2
    go_ret
    exact ⟨rfl, sv3, by have := HB3.out; simpa [bitv] using this, HW3.out⟩

set_option maxRecDepth 100000 in
set_option maxHeartbeats 4000000 in
/-- (*basicQosOk).write -/
theorem wr_basicQosOk {B bb g : Nat} {sv : Value} {xs : List UInt8} {w : World} (ex : List Value)  (hm : Blk w g 204 (ex).toArray) (hg : g < B) (hb : Buf w B 281 bb sv xs) (hB : B ≤ w.heap.size) (hx : xs.length ≤ 100) :
    Calls Tryz.prog 261 #[.pointer (some ⟨g, 0, none⟩), .iface 279 (.pointer (some ⟨bb, 0, none⟩))] w (Gave w B bb sv xs ([])) := by
  go_enter Tryz.func261, Tryz.ntmps261
  go_wp2
  go_ret
  exact Gave.nil hb

set_option maxRecDepth 100000 in
set_option maxHeartbeats 4000000 in
/-- (*basicConsume).write -/
theorem wr_basicConsume {B bb g : Nat} {sv : Value} {xs : List UInt8} {w : World} (ex : List Value) (t1 : ByteArray) (t2 : ByteArray) (b3 : Bool) (b4 : Bool) (b5 : Bool) (b6 : Bool) (m7 : Nat) (f7 : Fs) (hm : Blk w g 207 (.int .u16 0 :: .string t1 :: .string t2 :: .bool b3 :: .bool b4 :: .bool b5 :: .bool b6 :: .map (some m7) :: ex).toArray) (hg : g < B) (hb : Buf w B 281 bb sv xs) (hB : B ≤ w.heap.size) (hx : xs.length ≤ 100) (h1 : t1.size ≤ 255) (h2 : t2.size ≤ 255) (h7 : TabV w (fun g => g < B) f7 m7) (g7 : f7.good none) (k7 : f7.ok) (e7 : f7.enc.length ≤ 20000) :
    Calls Tryz.prog 265 #[.pointer (some ⟨g, 0, none⟩), .iface 279 (.pointer (some ⟨bb, 0, none⟩))] w (Gave w B bb sv xs (be 0 2 ++ ((be t1.size 1 ++ t1.data.toList) ++ ((be t2.size 1 ++ t2.data.toList) ++ (be (bitv [b3, b4, b5, b6]) 1 ++ (tab f7)))))) := by
  have HT7 := Lib.hid h7
  have HG7 := Lib.hid g7
  have HK7 := Lib.hid k7
  clear h7 g7 k7
  have HM0 := Lib.hid hm
  have HW0 := Lib.hid (Wr.refl w bb sv.ownBlock)
  have HB0 := Lib.hid hb
  have HS0 := Lib.hid hB
  clear hm hb hB
  go_enter Tryz.func265, Tryz.ntmps265
  have c0 : w.cell? ⟨g, 0, none⟩ = some (.int .u16 0) := by rw [HM0.out.cell]; rfl
  have HC0 := Lib.hid (fixed16 0 HB0.out HS0.out (by omega) (by omega))
  go_wp2_with fail
  refine HC0.out.mono ?_
  clear HC0
  rintro e w1 ⟨rfl, sv1, hb, hw⟩
  have HM1 := Lib.hid (hw.blkB HM0.out hg HB0.out)
  have HW1 := Lib.hid (HW0.out.trans hw)
  have HS1 := Lib.hid (Nat.le_trans HS0.out hw.size)
  have HB1 := Lib.hid hb
  clear hw hb c0
  have c1 : w1.cell? ⟨g, 1, none⟩ = some (.string t1) := by rw [HM1.out.cell]; rfl
  have HC1 := Lib.hid (wshortn t1 HB1.out HS1.out (by simp [be_len]; omega) h1)
  go_wp2_with fail
  refine HC1.out.mono ?_
  clear HC1
  rintro e w2 ⟨rfl, sv2, hb, hw⟩
  have HM2 := Lib.hid (hw.blkB HM1.out hg HB1.out)
  have HW2 := Lib.hid (HW1.out.trans hw)
  have HS2 := Lib.hid (Nat.le_trans HS1.out hw.size)
  have HB2 := Lib.hid hb
  clear hw hb c1
  have c2 : w2.cell? ⟨g, 2, none⟩ = some (.string t2) := by rw [HM2.out.cell]; rfl
  have HC2 := Lib.hid (wshortn t2 HB2.out HS2.out (by simp [be_len]; omega) h2)
  go_wp2_with fail
  refine HC2.out.mono ?_
  clear HC2
  rintro e w3 ⟨rfl, sv3, hb, hw⟩
  have HM3 := Lib.hid (hw.blkB HM2.out hg HB2.out)
  have HW3 := Lib.hid (HW2.out.trans hw)
  have HS3 := Lib.hid (Nat.le_trans HS2.out hw.size)
  have HB3 := Lib.hid hb
  clear hw hb c2
  have c3 : w3.cell? ⟨g, 3, none⟩ = some (.bool b3) := by rw [HM3.out.cell]; rfl
  have c4 : w3.cell? ⟨g, 4, none⟩ = some (.bool b4) := by rw [HM3.out.cell]; rfl
  have c5 : w3.cell? ⟨g, 5, none⟩ = some (.bool b5) := by rw [HM3.out.cell]; rfl
  have c6 : w3.cell? ⟨g, 6, none⟩ = some (.bool b6) := by rw [HM3.out.cell]; rfl
  cases b3 <;> cases b4 <;> cases b5 <;> cases b6
  all_goals
    go_wp2_with fail
    refine (fixed8n _ HB3.out HS3.out (by simp [be_len]; omega) (by decide)).mono ?_
    rintro e w4 ⟨rfl, sv4, hb, hw⟩
    have HM4 := Lib.hid (hw.blkB HM3.out hg HB3.out)
    have HW4 := Lib.hid (HW3.out.trans hw)
    have HS4 := Lib.hid (Nat.le_trans HS3.out hw.size)
    have HB4 := Lib.hid hb
    clear hw hb c3 c4 c5 c6
    have c7 : w4.cell? ⟨g, 7, none⟩ = some (.map (some m7)) := by rw [HM4.out.cell]; rfl
    have HC4 := Lib.hid (wtabn HG7.out HK7.out (HT7.out) HW4.out HB0.out HS0.out HB4.out HS4.out e7 (by simp [be_len]; omega))
    go_wp2_with fail
    refine HC4.out.mono ?_
    clear HC4
    rintro e w5 ⟨rfl, sv5, hb, hw⟩
    have HM5 := Lib.hid (hw.blkB HM4.out hg HB4.out)
    have HW5 := Lib.hid (HW4.out.trans hw)
    have HS5 := Lib.hid (Nat.le_trans HS4.out hw.size)
    have HB5 := Lib.hid hb
    clear hw hb c7
    go_wp2
    go_ret
    exact ⟨rfl, sv5, by have := HB5.out; simpa [bitv] using this, HW5.out⟩

set_option maxRecDepth 100000 in
set_option maxHeartbeats 4000000 in
/-- (*basicConsumeOk).write -/
theorem wr_basicConsumeOk {B bb g : Nat} {sv : Value} {xs : List UInt8} {w : World} (ex : List Value) (t0 : ByteArray) (hm : Blk w g 210 (.string t0 :: ex).toArray) (hg : g < B) (hb : Buf w B 281 bb sv xs) (hB : B ≤ w.heap.size) (hx : xs.length ≤ 100) (h0 : t0.size ≤ 255) :
    Calls Tryz.prog 269 #[.pointer (some ⟨g, 0, none⟩), .iface 279 (.pointer (some ⟨bb, 0, none⟩))] w (Gave w B bb sv xs ((be t0.size 1 ++ t0.data.toList))) := by
  have HM0 := Lib.hid hm
  have HW0 := Lib.hid (Wr.refl w bb sv.ownBlock)
  have HB0 := Lib.hid hb
  have HS0 := Lib.hid hB
  clear hm hb hB
  go_enter Tryz.func269, Tryz.ntmps269
  have c0 : w.cell? ⟨g, 0, none⟩ = some (.string t0) := by rw [HM0.out.cell]; rfl
  have HC0 := Lib.hid (wshortn t0 HB0.out HS0.out (by omega) h0)
  go_wp2_with fail
  refine HC0.out.mono ?_
  clear HC0
  rintro e w1 ⟨rfl, sv1, hb, hw⟩
  have HM1 := Lib.hid (hw.blkB HM0.out hg HB0.out)
  have HW1 := Lib.hid (HW0.out.trans hw)
  have HS1 := Lib.hid (Nat.le_trans HS0.out hw.size)
  have HB1 := Lib.hid hb
  clear hw hb c0
  go_wp2
  go_ret
  exact ⟨rfl, sv1, by have := HB1.out; simpa using this, HW1.out⟩

set_option maxRecDepth 100000 in
set_option maxHeartbeats 4000000 in
/-- (*basicCancel).write -/
theorem wr_basicCancel {B bb g : Nat} {sv : Value} {xs : List UInt8} {w : World} (ex : List Value) (t0 : ByteArray) (b1 : Bool) (hm : Blk w g 213 (.string t0 :: .bool b1 :: ex).toArray) (hg : g < B) (hb : Buf w B 281 bb sv xs) (hB : B ≤ w.heap.size) (hx : xs.length ≤ 100) (h0 : t0.size ≤ 255) :
    Calls Tryz.prog 273 #[.pointer (some ⟨g, 0, none⟩), .iface 279 (.pointer (some ⟨bb, 0, none⟩))] w (Gave w B bb sv xs ((be t0.size 1 ++ t0.data.toList) ++ (be (bitv [b1]) 1))) := by
  have HM0 := Lib.hid hm
  have HW0 := Lib.hid (Wr.refl w bb sv.ownBlock)
  have HB0 := Lib.hid hb
  have HS0 := Lib.hid hB
  clear hm hb hB
  go_enter Tryz.func273, Tryz.ntmps273
  have c0 : w.cell? ⟨g, 0, none⟩ = some (.string t0) := by rw [HM0.out.cell]; rfl
  have HC0 := Lib.hid (wshortn t0 HB0.out HS0.out (by omega) h0)
  go_wp2_with fail
  refine HC0.out.mono ?_
  clear HC0
  rintro e w1 ⟨rfl, sv1, hb, hw⟩
  have HM1 := Lib.hid (hw.blkB HM0.out hg HB0.out)
  have HW1 := Lib.hid (HW0.out.trans hw)
  have HS1 := Lib.hid (Nat.le_trans HS0.out hw.size)
  have HB1 := Lib.hid hb
  clear hw hb c0
  have c1 : w1.cell? ⟨g, 1, none⟩ = some (.bool b1) := by rw [HM1.out.cell]; rfl
  cases b1
  all_goals
    go_wp2_with fail
    refine (fixed8n _ HB1.out HS1.out (by simp [be_len]; omega) (by decide)).mono ?_
    rintro e w2 ⟨rfl, sv2, hb, hw⟩
    have HM2 := Lib.hid (hw.blkB HM1.out hg HB1.out)
    have HW2 := Lib.hid (HW1.out.trans hw)
    have HS2 := Lib.hid (Nat.le_trans HS1.out hw.size)
    have HB2 := Lib.hid hb
    clear hw hb c1
    go_wp2
    go_ret
    exact ⟨rfl, sv2, by have := HB2.out; simpa [bitv] using this, HW2.out⟩

set_option maxRecDepth 100000 in
set_option maxHeartbeats 4000000 in
/-- (*basicCancelOk).write -/
theorem wr_basicCancelOk {B bb g : Nat} {sv : Value} {xs : List UInt8} {w : World} (ex : List Value) (t0 : ByteArray) (hm : Blk w g 215 (.string t0 :: ex).toArray) (hg : g < B) (hb : Buf w B 281 bb sv xs) (hB : B ≤ w.heap.size) (hx : xs.length ≤ 100) (h0 : t0.size ≤ 255) :
    Calls Tryz.prog 277 #[.pointer (some ⟨g, 0, none⟩), .iface 279 (.pointer (some ⟨bb, 0, none⟩))] w (Gave w B bb sv xs ((be t0.size 1 ++ t0.data.toList))) := by
  have HM0 := Lib.hid hm
  have HW0 := Lib.hid (Wr.refl w bb sv.ownBlock)
  have HB0 := Lib.hid hb
  have HS0 := Lib.hid hB
  clear hm hb hB
  go_enter Tryz.func277, Tryz.ntmps277
  have c0 : w.cell? ⟨g, 0, none⟩ = some (.string t0) := by rw [HM0.out.cell]; rfl
  have HC0 := Lib.hid (wshortn t0 HB0.out HS0.out (by omega) h0)
  go_wp2_with fail
  refine HC0.out.mono ?_
  clear HC0
  rintro e w1 ⟨rfl, sv1, hb, hw⟩
  have HM1 := Lib.hid (hw.blkB HM0.out hg HB0.out)
  have HW1 := Lib.hid (HW0.out.trans hw)
  have HS1 := Lib.hid (Nat.le_trans HS0.out hw.size)
  have HB1 := Lib.hid hb
  clear hw hb c0
  go_wp2
  go_ret
  exact ⟨rfl, sv1, by have := HB1.out; simpa using this, HW1.out⟩

set_option maxRecDepth 100000 in
set_option maxHeartbeats 4000000 in
/-- (*basicPublish).write -/
theorem wr_basicPublish {B bb g : Nat} {sv : Value} {xs : List UInt8} {w : World} (ex : List Value) (t1 : ByteArray) (t2 : ByteArray) (b3 : Bool) (b4 : Bool) (hm : Blk w g 223 (.int .u16 0 :: .string t1 :: .string t2 :: .bool b3 :: .bool b4 :: ex).toArray) (hg : g < B) (hb : Buf w B 281 bb sv xs) (hB : B ≤ w.heap.size) (hx : xs.length ≤ 100) (h1 : t1.size ≤ 255) (h2 : t2.size ≤ 255) :
    Calls Tryz.prog 281 #[.pointer (some ⟨g, 0, none⟩), .iface 279 (.pointer (some ⟨bb, 0, none⟩))] w (Gave w B bb sv xs (be 0 2 ++ ((be t1.size 1 ++ t1.data.toList) ++ ((be t2.size 1 ++ t2.data.toList) ++ (be (bitv [b3, b4]) 1))))) := by
  have HM0 := Lib.hid hm
  have HW0 := Lib.hid (Wr.refl w bb sv.ownBlock)
  have HB0 := Lib.hid hb
  have HS0 := Lib.hid hB
  clear hm hb hB
  go_enter Tryz.func281, Tryz.ntmps281
  have c0 : w.cell? ⟨g, 0, none⟩ = some (.int .u16 0) := by rw [HM0.out.cell]; rfl
  have HC0 := Lib.hid (fixed16 0 HB0.out HS0.out (by omega) (by omega))
  go_wp2_with fail
  refine HC0.out.mono ?_
  clear HC0
  rintro e w1 ⟨rfl, sv1, hb, hw⟩
  have HM1 := Lib.hid (hw.blkB HM0.out hg HB0.out)
  have HW1 := Lib.hid (HW0.out.trans hw)
  have HS1 := Lib.hid (Nat.le_trans HS0.out hw.size)
  have HB1 := Lib.hid hb
  clear hw hb c0
  have c1 : w1.cell? ⟨g, 1, none⟩ = some (.string t1) := by rw [HM1.out.cell]; rfl
  have HC1 := Lib.hid (wshortn t1 HB1.out HS1.out (by simp [be_len]; omega) h1)
  go_wp2_with fail
  refine HC1.out.mono ?_
  clear HC1
  rintro e w2 ⟨rfl, sv2, hb, hw⟩
  have HM2 := Lib.hid (hw.blkB HM1.out hg HB1.out)
  have HW2 := Lib.hid (HW1.out.trans hw)
  have HS2 := Lib.hid (Nat.le_trans HS1.out hw.size)
  have HB2 := Lib.hid hb
  clear hw hb c1
  have c2 : w2.cell? ⟨g, 2, none⟩ = some (.string t2) := by rw [HM2.out.cell]; rfl
  have HC2 := Lib.hid (wshortn t2 HB2.out HS2.out (by simp [be_len]; omega) h2)
  go_wp2_with fail
  refine HC2.out.mono ?_
  clear HC2
  rintro e w3 ⟨rfl, sv3, hb, hw⟩
  have HM3 := Lib.hid (hw.blkB HM2.out hg HB2.out)
  have HW3 := Lib.hid (HW2.out.trans hw)
  have HS3 := Lib.hid (Nat.le_trans HS2.out hw.size)
  have HB3 := Lib.hid hb
  clear hw hb c2
  have c3 : w3.cell? ⟨g, 3, none⟩ = some (.bool b3) := by rw [HM3.out.cell]; rfl
  have c4 : w3.cell? ⟨g, 4, none⟩ = some (.bool b4) := by rw [HM3.out.cell]; rfl
  cases b3 <;> cases b4
  all_goals
    go_wp2_with fail
    refine (fixed8n _ HB3.out HS3.out (by simp [be_len]; omega) (by decide)).mono ?_
    rintro e w4 ⟨rfl, sv4, hb, hw⟩
    have HM4 := Lib.hid (hw.blkB HM3.out hg HB3.out)
    have HW4 := Lib.hid (HW3.out.trans hw)
    have HS4 := Lib.hid (Nat.le_trans HS3.out hw.size)
    have HB4 := Lib.hid hb
    clear hw hb c3 c4
    go_wp2
    go_ret
    exact ⟨rfl, sv4, by have := HB4.out; simpa [bitv] using this, HW4.out⟩

set_option maxRecDepth 100000 in
set_option maxHeartbeats 4000000 in
/-- (*basicReturn).write -/
theorem wr_basicReturn {B bb g : Nat} {sv : Value} {xs : List UInt8} {w : World} (ex : List Value) (n0 : Nat) (t1 : ByteArray) (t2 : ByteArray) (t3 : ByteArray) (hm : Blk w g 226 (.int .u16 n0 :: .string t1 :: .string t2 :: .string t3 :: ex).toArray) (hg : g < B) (hb : Buf w B 281 bb sv xs) (hB : B ≤ w.heap.size) (hx : xs.length ≤ 100) (h0 : n0 < 65536) (h1 : t1.size ≤ 255) (h2 : t2.size ≤ 255) (h3 : t3.size ≤ 255) :
    Calls Tryz.prog 288 #[.pointer (some ⟨g, 0, none⟩), .iface 279 (.pointer (some ⟨bb, 0, none⟩))] w (Gave w B bb sv xs (be n0 2 ++ ((be t1.size 1 ++ t1.data.toList) ++ ((be t2.size 1 ++ t2.data.toList) ++ ((be t3.size 1 ++ t3.data.toList)))))) := by
  have HM0 := Lib.hid hm
  have HW0 := Lib.hid (Wr.refl w bb sv.ownBlock)
  have HB0 := Lib.hid hb
  have HS0 := Lib.hid hB
  clear hm hb hB
  go_enter Tryz.func288, Tryz.ntmps288
  have c0 : w.cell? ⟨g, 0, none⟩ = some (.int .u16 n0) := by rw [HM0.out.cell]; rfl
  have HC0 := Lib.hid (fixed16 n0 HB0.out HS0.out (by omega) h0)
  go_wp2_with fail
  refine HC0.out.mono ?_
  clear HC0
  rintro e w1 ⟨rfl, sv1, hb, hw⟩
  have HM1 := Lib.hid (hw.blkB HM0.out hg HB0.out)
  have HW1 := Lib.hid (HW0.out.trans hw)
  have HS1 := Lib.hid (Nat.le_trans HS0.out hw.size)
  have HB1 := Lib.hid hb
  clear hw hb c0
  have c1 : w1.cell? ⟨g, 1, none⟩ = some (.string t1) := by rw [HM1.out.cell]; rfl
  have HC1 := Lib.hid (wshortn t1 HB1.out HS1.out (by simp [be_len]; omega) h1)
  go_wp2_with fail
  refine HC1.out.mono ?_
  clear HC1
  rintro e w2 ⟨rfl, sv2, hb, hw⟩
  have HM2 := Lib.hid (hw.blkB HM1.out hg HB1.out)
  have HW2 := Lib.hid (HW1.out.trans hw)
  have HS2 := Lib.hid (Nat.le_trans HS1.out hw.size)
  have HB2 := Lib.hid hb
  clear hw hb c1
  have c2 : w2.cell? ⟨g, 2, none⟩ = some (.string t2) := by rw [HM2.out.cell]; rfl
  have HC2 := Lib.hid (wshortn t2 HB2.out HS2.out (by simp [be_len]; omega) h2)
  go_wp2_with fail
  refine HC2.out.mono ?_
  clear HC2
  rintro e w3 ⟨rfl, sv3, hb, hw⟩
  have HM3 := Lib.hid (hw.blkB HM2.out hg HB2.out)
  have HW3 := Lib.hid (HW2.out.trans hw)
  have HS3 := Lib.hid (Nat.le_trans HS2.out hw.size)
  have HB3 := Lib.hid hb
  clear hw hb c2
  have c3 : w3.cell? ⟨g, 3, none⟩ = some (.string t3) := by rw [HM3.out.cell]; rfl
  have HC3 := Lib.hid (wshortn t3 HB3.out HS3.out (by simp [be_len]; omega) h3)
  go_wp2_with fail
  refine HC3.out.mono ?_
  clear HC3
  rintro e w4 ⟨rfl, sv4, hb, hw⟩
  have HM4 := Lib.hid (hw.blkB HM3.out hg HB3.out)
  have HW4 := Lib.hid (HW3.out.trans hw)
  have HS4 := Lib.hid (Nat.le_trans HS3.out hw.size)
  have HB4 := Lib.hid hb
  clear hw hb c3
  go_wp2
  go_ret
  exact ⟨rfl, sv4, by have := HB4.out; simpa using this, HW4.out⟩

set_option maxRecDepth 100000 in
set_option maxHeartbeats 4000000 in
/-- (*basicDeliver).write -/
theorem wr_basicDeliver {B bb g : Nat} {sv : Value} {xs : List UInt8} {w : World} (ex : List Value) (t0 : ByteArray) (n1 : Nat) (b2 : Bool) (t3 : ByteArray) (t4 : ByteArray) (hm : Blk w g 229 (.string t0 :: .int .u64 n1 :: .bool b2 :: .string t3 :: .string t4 :: ex).toArray) (hg : g < B) (hb : Buf w B 281 bb sv xs) (hB : B ≤ w.heap.size) (hx : xs.length ≤ 100) (h0 : t0.size ≤ 255) (h1 : n1 < 18446744073709551616) (h3 : t3.size ≤ 255) (h4 : t4.size ≤ 255) :
    Calls Tryz.prog 292 #[.pointer (some ⟨g, 0, none⟩), .iface 279 (.pointer (some ⟨bb, 0, none⟩))] w (Gave w B bb sv xs ((be t0.size 1 ++ t0.data.toList) ++ (be n1 8 ++ (be (bitv [b2]) 1 ++ ((be t3.size 1 ++ t3.data.toList) ++ ((be t4.size 1 ++ t4.data.toList))))))) := by
  have HM0 := Lib.hid hm
  have HW0 := Lib.hid (Wr.refl w bb sv.ownBlock)
  have HB0 := Lib.hid hb
  have HS0 := Lib.hid hB
  clear hm hb hB
  go_enter Tryz.func292, Tryz.ntmps292
  have c0 : w.cell? ⟨g, 0, none⟩ = some (.string t0) := by rw [HM0.out.cell]; rfl
  have HC0 := Lib.hid (wshortn t0 HB0.out HS0.out (by omega) h0)
  go_wp2_with fail
  refine HC0.out.mono ?_
  clear HC0
  rintro e w1 ⟨rfl, sv1, hb, hw⟩
  have HM1 := Lib.hid (hw.blkB HM0.out hg HB0.out)
  have HW1 := Lib.hid (HW0.out.trans hw)
  have HS1 := Lib.hid (Nat.le_trans HS0.out hw.size)
  have HB1 := Lib.hid hb
  clear hw hb c0
  have c1 : w1.cell? ⟨g, 1, none⟩ = some (.int .u64 n1) := by rw [HM1.out.cell]; rfl
  have HC1 := Lib.hid (fixed64 n1 HB1.out HS1.out (by simp [be_len]; omega) h1)
  go_wp2_with fail
  refine HC1.out.mono ?_
  clear HC1
  rintro e w2 ⟨rfl, sv2, hb, hw⟩
  have HM2 := Lib.hid (hw.blkB HM1.out hg HB1.out)
  have HW2 := Lib.hid (HW1.out.trans hw)
  have HS2 := Lib.hid (Nat.le_trans HS1.out hw.size)
  have HB2 := Lib.hid hb
  clear hw hb c1
  have c2 : w2.cell? ⟨g, 2, none⟩ = some (.bool b2) := by rw [HM2.out.cell]; rfl
  cases b2
  all_goals
    go_wp2_with fail
    refine (fixed8n _ HB2.out HS2.out (by simp [be_len]; omega) (by decide)).mono ?_
    rintro e w3 ⟨rfl, sv3, hb, hw⟩
    have HM3 := Lib.hid (hw.blkB HM2.out hg HB2.out)
    have HW3 := Lib.hid (HW2.out.trans hw)
    have HS3 := Lib.hid (Nat.le_trans HS2.out hw.size)
    have HB3 := Lib.hid hb
    clear hw hb c2
    have c3 : w3.cell? ⟨g, 3, none⟩ = some (.string t3) := by rw [HM3.out.cell]; rfl
    have HC3 := Lib.hid (wshortn t3 HB3.out HS3.out (by simp [be_len]; omega) h3)
    go_wp2_with fail
    refine HC3.out.mono ?_
    clear HC3
    rintro e w4 ⟨rfl, sv4, hb, hw⟩
    have HM4 := Lib.hid (hw.blkB HM3.out hg HB3.out)
    have HW4 := Lib.hid (HW3.out.trans hw)
    have HS4 := Lib.hid (Nat.le_trans HS3.out hw.size)
    have HB4 := Lib.hid hb
    clear hw hb c3
    have c4 : w4.cell? ⟨g, 4, none⟩ = some (.string t4) := by rw [HM4.out.cell]; rfl
    have HC4 := Lib.hid (wshortn t4 HB4.out HS4.out (by simp [be_len]; omega) h4)
    go_wp2_with fail
    refine HC4.out.mono ?_
    clear HC4
    rintro e w5 ⟨rfl, sv5, hb, hw⟩
    have HM5 := Lib.hid (hw.blkB HM4.out hg HB4.out)
    have HW5 := Lib.hid (HW4.out.trans hw)
    have HS5 := Lib.hid (Nat.le_trans HS4.out hw.size)
    have HB5 := Lib.hid hb
    clear hw hb c4
    go_wp2
    go_ret
    exact ⟨rfl, sv5, by have := HB5.out; simpa [bitv] using this, HW5.out⟩

set_option maxRecDepth 100000 in
set_option maxHeartbeats 4000000 in
/-- (*basicGet).write -/
theorem wr_basicGet {B bb g : Nat} {sv : Value} {xs : List UInt8} {w : World} (ex : List Value) (t1 : ByteArray) (b2 : Bool) (hm : Blk w g 232 (.int .u16 0 :: .string t1 :: .bool b2 :: ex).toArray) (hg : g < B) (hb : Buf w B 281 bb sv xs) (hB : B ≤ w.heap.size) (hx : xs.length ≤ 100) (h1 : t1.size ≤ 255) :
    Calls Tryz.prog 296 #[.pointer (some ⟨g, 0, none⟩), .iface 279 (.pointer (some ⟨bb, 0, none⟩))] w (Gave w B bb sv xs (be 0 2 ++ ((be t1.size 1 ++ t1.data.toList) ++ (be (bitv [b2]) 1)))) := by
  have HM0 := Lib.hid hm
  have HW0 := Lib.hid (Wr.refl w bb sv.ownBlock)
  have HB0 := Lib.hid hb
  have HS0 := Lib.hid hB
  clear hm hb hB
  go_enter Tryz.func296, Tryz.ntmps296
  have c0 : w.cell? ⟨g, 0, none⟩ = some (.int .u16 0) := by rw [HM0.out.cell]; rfl
  have HC0 := Lib.hid (fixed16 0 HB0.out HS0.out (by omega) (by omega))
  go_wp2_with fail
  refine HC0.out.mono ?_
  clear HC0
  rintro e w1 ⟨rfl, sv1, hb, hw⟩
  have HM1 := Lib.hid (hw.blkB HM0.out hg HB0.out)
  have HW1 := Lib.hid (HW0.out.trans hw)
  have HS1 := Lib.hid (Nat.le_trans HS0.out hw.size)
  have HB1 := Lib.hid hb
  clear hw hb c0
  have c1 : w1.cell? ⟨g, 1, none⟩ = some (.string t1) := by rw [HM1.out.cell]; rfl
  have HC1 := Lib.hid (wshortn t1 HB1.out HS1.out (by simp [be_len]; omega) h1)
  go_wp2_with fail
  refine HC1.out.mono ?_
  clear HC1
  rintro e w2 ⟨rfl, sv2, hb, hw⟩
  have HM2 := Lib.hid (hw.blkB HM1.out hg HB1.out)
  have HW2 := Lib.hid (HW1.out.trans hw)
  have HS2 := Lib.hid (Nat.le_trans HS1.out hw.size)
  have HB2 := Lib.hid hb
  clear hw hb c1
  have c2 : w2.cell? ⟨g, 2, none⟩ = some (.bool b2) := by rw [HM2.out.cell]; rfl
  cases b2
  all_goals
    go_wp2_with fail
    refine (fixed8n _ HB2.out HS2.out (by simp [be_len]; omega) (by decide)).mono ?_
    rintro e w3 ⟨rfl, sv3, hb, hw⟩
    have HM3 := Lib.hid (hw.blkB HM2.out hg HB2.out)
    have HW3 := Lib.hid (HW2.out.trans hw)
    have HS3 := Lib.hid (Nat.le_trans HS2.out hw.size)
    have HB3 := Lib.hid hb
    clear hw hb c2
    go_wp2
    go_ret
    exact ⟨rfl, sv3, by have := HB3.out; simpa [bitv] using this, HW3.out⟩

set_option maxRecDepth 100000 in
set_option maxHeartbeats 4000000 in
/-- (*basicGetOk).write -/
theorem wr_basicGetOk {B bb g : Nat} {sv : Value} {xs : List UInt8} {w : World} (ex : List Value) (n0 : Nat) (b1 : Bool) (t2 : ByteArray) (t3 : ByteArray) (n4 : Nat) (hm : Blk w g 235 (.int .u64 n0 :: .bool b1 :: .string t2 :: .string t3 :: .int .u32 n4 :: ex).toArray) (hg : g < B) (hb : Buf w B 281 bb sv xs) (hB : B ≤ w.heap.size) (hx : xs.length ≤ 100) (h0 : n0 < 18446744073709551616) (h2 : t2.size ≤ 255) (h3 : t3.size ≤ 255) (h4 : n4 < 4294967296) :
    Calls Tryz.prog 300 #[.pointer (some ⟨g, 0, none⟩), .iface 279 (.pointer (some ⟨bb, 0, none⟩))] w (Gave w B bb sv xs (be n0 8 ++ (be (bitv [b1]) 1 ++ ((be t2.size 1 ++ t2.data.toList) ++ ((be t3.size 1 ++ t3.data.toList) ++ (be n4 4)))))) := by
  have HM0 := Lib.hid hm
  have HW0 := Lib.hid (Wr.refl w bb sv.ownBlock)
  have HB0 := Lib.hid hb
  have HS0 := Lib.hid hB
  clear hm hb hB
  go_enter Tryz.func300, Tryz.ntmps300
  have c0 : w.cell? ⟨g, 0, none⟩ = some (.int .u64 n0) := by rw [HM0.out.cell]; rfl
  have HC0 := Lib.hid (fixed64 n0 HB0.out HS0.out (by omega) h0)
  go_wp2_with fail
  refine HC0.out.mono ?_
  clear HC0
  rintro e w1 ⟨rfl, sv1, hb, hw⟩
  have HM1 := Lib.hid (hw.blkB HM0.out hg HB0.out)
  have HW1 := Lib.hid (HW0.out.trans hw)
  have HS1 := Lib.hid (Nat.le_trans HS0.out hw.size)
  have HB1 := Lib.hid hb
  clear hw hb c0
  have c1 : w1.cell? ⟨g, 1, none⟩ = some (.bool b1) := by rw [HM1.out.cell]; rfl
  cases b1
  all_goals
    go_wp2_with fail
    refine (fixed8n _ HB1.out HS1.out (by simp [be_len]; omega) (by decide)).mono ?_
    rintro e w2 ⟨rfl, sv2, hb, hw⟩
    have HM2 := Lib.hid (hw.blkB HM1.out hg HB1.out)
    have HW2 := Lib.hid (HW1.out.trans hw)
    have HS2 := Lib.hid (Nat.le_trans HS1.out hw.size)
    have HB2 := Lib.hid hb
    clear hw hb c1
    have c2 : w2.cell? ⟨g, 2, none⟩ = some (.string t2) := by rw [HM2.out.cell]; rfl
    have HC2 := Lib.hid (wshortn t2 HB2.out HS2.out (by simp [be_len]; omega) h2)
    go_wp2_with fail
    refine HC2.out.mono ?_
    clear HC2
    rintro e w3 ⟨rfl, sv3, hb, hw⟩
    have HM3 := Lib.hid (hw.blkB HM2.out hg HB2.out)
    have HW3 := Lib.hid (HW2.out.trans hw)
    have HS3 := Lib.hid (Nat.le_trans HS2.out hw.size)
    have HB3 := Lib.hid hb
    clear hw hb c2
    have c3 : w3.cell? ⟨g, 3, none⟩ = some (.string t3) := by rw [HM3.out.cell]; rfl
    have HC3 := Lib.hid (wshortn t3 HB3.out HS3.out (by simp [be_len]; omega) h3)
    go_wp2_with fail
    refine HC3.out.mono ?_
    clear HC3
    rintro e w4 ⟨rfl, sv4, hb, hw⟩
    have HM4 := Lib.hid (hw.blkB HM3.out hg HB3.out)
    have HW4 := Lib.hid (HW3.out.trans hw)
    have HS4 := Lib.hid (Nat.le_trans HS3.out hw.size)
    have HB4 := Lib.hid hb
    clear hw hb c3
    have c4 : w4.cell? ⟨g, 4, none⟩ = some (.int .u32 n4) := by rw [HM4.out.cell]; rfl
    have HC4 := Lib.hid (fixed32 n4 HB4.out HS4.out (by simp [be_len]; omega) h4)
    go_wp2_with fail
    refine HC4.out.mono ?_
    clear HC4
    rintro e w5 ⟨rfl, sv5, hb, hw⟩
    have HM5 := Lib.hid (hw.blkB HM4.out hg HB4.out)
    have HW5 := Lib.hid (HW4.out.trans hw)
    have HS5 := Lib.hid (Nat.le_trans HS4.out hw.size)
    have HB5 := Lib.hid hb
    clear hw hb c4
    go_wp2
    go_ret
    exact ⟨rfl, sv5, by have := HB5.out; simpa [bitv] using this, HW5.out⟩

end Go.Proofs.YtabeppaehenefaaGreat

namespace Go.Proofs.YtabeppaehenefaaGreat
open Go.RowKit
attribute [local go_sem ↓] Go.wp_at_zero Go.wp_at_succ
set_option linter.unusedVariables false

set_option maxRecDepth 100000 in
set_option maxHeartbeats 4000000 in
/-- (*basicGetEmpty).write -/
theorem wr_basicGetEmpty {B bb g : Nat} {sv : Value} {xs : List UInt8} {w : World} (ex : List Value)  (hm : Blk w g 237 (.string ⟨#[]⟩ :: ex).toArray) (hg : g < B) (hb : Buf w B 281 bb sv xs) (hB : B ≤ w.heap.size) (hx : xs.length ≤ 100) :
    Calls Tryz.prog 304 #[.pointer (some ⟨g, 0, none⟩), .iface 279 (.pointer (some ⟨bb, 0, none⟩))] w (Gave w B bb sv xs ((be 0 1 ++ []))) := by
  have HM0 := Lib.hid hm
  have HW0 := Lib.hid (Wr.refl w bb sv.ownBlock)
  have HB0 := Lib.hid hb
  have HS0 := Lib.hid hB
  clear hm hb hB
  go_enter Tryz.func304, Tryz.ntmps304
  have c0 : w.cell? ⟨g, 0, none⟩ = some (.string ⟨#[]⟩) := by rw [HM0.out.cell]; rfl
  have HC0 := Lib.hid (wshort0 HB0.out HS0.out (by omega))
  go_wp2_with fail
  refine HC0.out.mono ?_
  clear HC0
  rintro e w1 ⟨rfl, sv1, hb, hw⟩
  have HM1 := Lib.hid (hw.blkB HM0.out hg HB0.out)
  have HW1 := Lib.hid (HW0.out.trans hw)
  have HS1 := Lib.hid (Nat.le_trans HS0.out hw.size)
  have HB1 := Lib.hid hb
  clear hw hb c0
  go_wp2
  go_ret
  exact ⟨rfl, sv1, by have := HB1.out; simpa using this, HW1.out⟩

set_option maxRecDepth 100000 in
set_option maxHeartbeats 4000000 in
/-- (*basicAck).write -/
theorem wr_basicAck {B bb g : Nat} {sv : Value} {xs : List UInt8} {w : World} (ex : List Value) (n0 : Nat) (b1 : Bool) (hm : Blk w g 240 (.int .u64 n0 :: .bool b1 :: ex).toArray) (hg : g < B) (hb : Buf w B 281 bb sv xs) (hB : B ≤ w.heap.size) (hx : xs.length ≤ 100) (h0 : n0 < 18446744073709551616) :
    Calls Tryz.prog 308 #[.pointer (some ⟨g, 0, none⟩), .iface 279 (.pointer (some ⟨bb, 0, none⟩))] w (Gave w B bb sv xs (be n0 8 ++ (be (bitv [b1]) 1))) := by
  have HM0 := Lib.hid hm
  have HW0 := Lib.hid (Wr.refl w bb sv.ownBlock)
  have HB0 := Lib.hid hb
  have HS0 := Lib.hid hB
  clear hm hb hB
  go_enter Tryz.func308, Tryz.ntmps308
  have c0 : w.cell? ⟨g, 0, none⟩ = some (.int .u64 n0) := by rw [HM0.out.cell]; rfl
  have HC0 := Lib.hid (fixed64 n0 HB0.out HS0.out (by omega) h0)
  go_wp2_with fail
  refine HC0.out.mono ?_
  clear HC0
  rintro e w1 ⟨rfl, sv1, hb, hw⟩
  have HM1 := Lib.hid (hw.blkB HM0.out hg HB0.out)
  have HW1 := Lib.hid (HW0.out.trans hw)
  have HS1 := Lib.hid (Nat.le_trans HS0.out hw.size)
  have HB1 := Lib.hid hb
  clear hw hb c0
  have c1 : w1.cell? ⟨g, 1, none⟩ = some (.bool b1) := by rw [HM1.out.cell]; rfl
  cases b1
  all_goals
    go_wp2_with fail
    refine (fixed8n _ HB1.out HS1.out (by simp [be_len]; omega) (by decide)).mono ?_
    rintro e w2 ⟨rfl, sv2, hb, hw⟩
    have HM2 := Lib.hid (hw.blkB HM1.out hg HB1.out)
    have HW2 := Lib.hid (HW1.out.trans hw)
    have HS2 := Lib.hid (Nat.le_trans HS1.out hw.size)
    have HB2 := Lib.hid hb
    clear hw hb c1
    go_wp2
    go_ret
    exact ⟨rfl, sv2, by have := HB2.out; simpa [bitv] using this, HW2.out⟩

set_option maxRecDepth 100000 in
set_option maxHeartbeats 4000000 in
/-- (*basicReject).write -/
theorem wr_basicReject {B bb g : Nat} {sv : Value} {xs : List UInt8} {w : World} (ex : List Value) (n0 : Nat) (b1 : Bool) (hm : Blk w g 243 (.int .u64 n0 :: .bool b1 :: ex).toArray) (hg : g < B) (hb : Buf w B 281 bb sv xs) (hB : B ≤ w.heap.size) (hx : xs.length ≤ 100) (h0 : n0 < 18446744073709551616) :
    Calls Tryz.prog 312 #[.pointer (some ⟨g, 0, none⟩), .iface 279 (.pointer (some ⟨bb, 0, none⟩))] w (Gave w B bb sv xs (be n0 8 ++ (be (bitv [b1]) 1))) := by
  have HM0 := Lib.hid hm
  have HW0 := Lib.hid (Wr.refl w bb sv.ownBlock)
  have HB0 := Lib.hid hb
  have HS0 := Lib.hid hB
  clear hm hb hB
  go_enter Tryz.func312, Tryz.ntmps312
  have c0 : w.cell? ⟨g, 0, none⟩ = some (.int .u64 n0) := by rw [HM0.out.cell]; rfl
  have HC0 := Lib.hid (fixed64 n0 HB0.out HS0.out (by omega) h0)
  go_wp2_with fail
  refine HC0.out.mono ?_
  clear HC0
  rintro e w1 ⟨rfl, sv1, hb, hw⟩
  have HM1 := Lib.hid (hw.blkB HM0.out hg HB0.out)
  have HW1 := Lib.hid (HW0.out.trans hw)
  have HS1 := Lib.hid (Nat.le_trans HS0.out hw.size)
  have HB1 := Lib.hid hb
  clear hw hb c0
  have c1 : w1.cell? ⟨g, 1, none⟩ = some (.bool b1) := by rw [HM1.out.cell]; rfl
  cases b1
  all_goals
    go_wp2_with fail
    refine (fixed8n _ HB1.out HS1.out (by simp [be_len]; omega) (by decide)).mono ?_
    rintro e w2 ⟨rfl, sv2, hb, hw⟩
    have HM2 := Lib.hid (hw.blkB HM1.out hg HB1.out)
    have HW2 := Lib.hid (HW1.out.trans hw)
    have HS2 := Lib.hid (Nat.le_trans HS1.out hw.size)
    have HB2 := Lib.hid hb
    clear hw hb c1
    go_wp2
    go_ret
    exact ⟨rfl, sv2, by have := HB2.out; simpa [bitv] using this, HW2.out⟩

set_option maxRecDepth 100000 in
set_option maxHeartbeats 4000000 in
/-- (*basicRecoverAsync).write -/
theorem wr_basicRecoverAsync {B bb g : Nat} {sv : Value} {xs : List UInt8} {w : World} (ex : List Value) (b0 : Bool) (hm : Blk w g 246 (.bool b0 :: ex).toArray) (hg : g < B) (hb : Buf w B 281 bb sv xs) (hB : B ≤ w.heap.size) (hx : xs.length ≤ 100) :
    Calls Tryz.prog 316 #[.pointer (some ⟨g, 0, none⟩), .iface 279 (.pointer (some ⟨bb, 0, none⟩))] w (Gave w B bb sv xs (be (bitv [b0]) 1)) := by
  have HM0 := Lib.hid hm
  have HW0 := Lib.hid (Wr.refl w bb sv.ownBlock)
  have HB0 := Lib.hid hb
  have HS0 := Lib.hid hB
  clear hm hb hB
  go_enter Tryz.func316, Tryz.ntmps316
  have c0 : w.cell? ⟨g, 0, none⟩ = some (.bool b0) := by rw [HM0.out.cell]; rfl
  cases b0
  all_goals
    go_wp2_with fail
    refine (fixed8n _ HB0.out HS0.out (by omega) (by decide)).mono ?_
    rintro e w1 ⟨rfl, sv1, hb, hw⟩
    have HM1 := Lib.hid (hw.blkB HM0.out hg HB0.out)
    have HW1 := Lib.hid (HW0.out.trans hw)
    have HS1 := Lib.hid (Nat.le_trans HS0.out hw.size)
    have HB1 := Lib.hid hb
    clear hw hb c0
    go_wp2
    go_ret
    exact ⟨rfl, sv1, by have := HB1.out; simpa [bitv] using this, HW1.out⟩

set_option maxRecDepth 100000 in
set_option maxHeartbeats 4000000 in
/-- (*basicRecover).write -/
theorem wr_basicRecover {B bb g : Nat} {sv : Value} {xs : List UInt8} {w : World} (ex : List Value) (b0 : Bool) (hm : Blk w g 248 (.bool b0 :: ex).toArray) (hg : g < B) (hb : Buf w B 281 bb sv xs) (hB : B ≤ w.heap.size) (hx : xs.length ≤ 100) :
    Calls Tryz.prog 320 #[.pointer (some ⟨g, 0, none⟩), .iface 279 (.pointer (some ⟨bb, 0, none⟩))] w (Gave w B bb sv xs (be (bitv [b0]) 1)) := by
  have HM0 := Lib.hid hm
  have HW0 := Lib.hid (Wr.refl w bb sv.ownBlock)
  have HB0 := Lib.hid hb
  have HS0 := Lib.hid hB
  clear hm hb hB
  go_enter Tryz.func320, Tryz.ntmps320
  have c0 : w.cell? ⟨g, 0, none⟩ = some (.bool b0) := by rw [HM0.out.cell]; rfl
  cases b0
  all_goals
    go_wp2_with fail
    refine (fixed8n _ HB0.out HS0.out (by omega) (by decide)).mono ?_
    rintro e w1 ⟨rfl, sv1, hb, hw⟩
    have HM1 := Lib.hid (hw.blkB HM0.out hg HB0.out)
    have HW1 := Lib.hid (HW0.out.trans hw)
    have HS1 := Lib.hid (Nat.le_trans HS0.out hw.size)
    have HB1 := Lib.hid hb
    clear hw hb c0
    go_wp2
    go_ret
    exact ⟨rfl, sv1, by have := HB1.out; simpa [bitv] using this, HW1.out⟩

set_option maxRecDepth 100000 in
set_option maxHeartbeats 4000000 in
/-- (*basicRecoverOk).write -/
theorem wr_basicRecoverOk {B bb g : Nat} {sv : Value} {xs : List UInt8} {w : World} (ex : List Value)  (hm : Blk w g 250 (ex).toArray) (hg : g < B) (hb : Buf w B 281 bb sv xs) (hB : B ≤ w.heap.size) (hx : xs.length ≤ 100) :
    Calls Tryz.prog 324 #[.pointer (some ⟨g, 0, none⟩), .iface 279 (.pointer (some ⟨bb, 0, none⟩))] w (Gave w B bb sv xs ([])) := by
  go_enter Tryz.func324, Tryz.ntmps324
  go_wp2
  go_ret
  exact Gave.nil hb

set_option maxRecDepth 100000 in
set_option maxHeartbeats 4000000 in
/-- (*basicNack).write -/
theorem wr_basicNack {B bb g : Nat} {sv : Value} {xs : List UInt8} {w : World} (ex : List Value) (n0 : Nat) (b1 : Bool) (b2 : Bool) (hm : Blk w g 253 (.int .u64 n0 :: .bool b1 :: .bool b2 :: ex).toArray) (hg : g < B) (hb : Buf w B 281 bb sv xs) (hB : B ≤ w.heap.size) (hx : xs.length ≤ 100) (h0 : n0 < 18446744073709551616) :
    Calls Tryz.prog 328 #[.pointer (some ⟨g, 0, none⟩), .iface 279 (.pointer (some ⟨bb, 0, none⟩))] w (Gave w B bb sv xs (be n0 8 ++ (be (bitv [b1, b2]) 1))) := by
  have HM0 := Lib.hid hm
  have HW0 := Lib.hid (Wr.refl w bb sv.ownBlock)
  have HB0 := Lib.hid hb
  have HS0 := Lib.hid hB
  clear hm hb hB
  go_enter Tryz.func328, Tryz.ntmps328
  have c0 : w.cell? ⟨g, 0, none⟩ = some (.int .u64 n0) := by rw [HM0.out.cell]; rfl
  have HC0 := Lib.hid (fixed64 n0 HB0.out HS0.out (by omega) h0)
  go_wp2_with fail
  refine HC0.out.mono ?_
  clear HC0
  rintro e w1 ⟨rfl, sv1, hb, hw⟩
  have HM1 := Lib.hid (hw.blkB HM0.out hg HB0.out)
  have HW1 := Lib.hid (HW0.out.trans hw)
  have HS1 := Lib.hid (Nat.le_trans HS0.out hw.size)
  have HB1 := Lib.hid hb
  clear hw hb c0
  have c1 : w1.cell? ⟨g, 1, none⟩ = some (.bool b1) := by rw [HM1.out.cell]; rfl
  have c2 : w1.cell? ⟨g, 2, none⟩ = some (.bool b2) := by rw [HM1.out.cell]; rfl
  cases b1 <;> cases b2
  all_goals
    go_wp2_with fail
    refine (fixed8n _ HB1.out HS1.out (by simp [be_len]; omega) (by decide)).mono ?_
    rintro e w2 ⟨rfl, sv2, hb, hw⟩
    have HM2 := Lib.hid (hw.blkB HM1.out hg HB1.out)
    have HW2 := Lib.hid (HW1.out.trans hw)
    have HS2 := Lib.hid (Nat.le_trans HS1.out hw.size)
    have HB2 := Lib.hid hb
    clear hw hb c1 c2
    go_wp2
    go_ret
    exact ⟨rfl, sv2, by have := HB2.out; simpa [bitv] using this, HW2.out⟩

set_option maxRecDepth 100000 in
set_option maxHeartbeats 4000000 in
/-- (*txSelect).write -/
theorem wr_txSelect {B bb g : Nat} {sv : Value} {xs : List UInt8} {w : World} (ex : List Value)  (hm : Blk w g 255 (ex).toArray) (hg : g < B) (hb : Buf w B 281 bb sv xs) (hB : B ≤ w.heap.size) (hx : xs.length ≤ 100) :
    Calls Tryz.prog 332 #[.pointer (some ⟨g, 0, none⟩), .iface 279 (.pointer (some ⟨bb, 0, none⟩))] w (Gave w B bb sv xs ([])) := by
  go_enter Tryz.func332, Tryz.ntmps332
  go_wp2
  go_ret
  exact Gave.nil hb

set_option maxRecDepth 100000 in
set_option maxHeartbeats 4000000 in
/-- (*txSelectOk).write -/
theorem wr_txSelectOk {B bb g : Nat} {sv : Value} {xs : List UInt8} {w : World} (ex : List Value)  (hm : Blk w g 257 (ex).toArray) (hg : g < B) (hb : Buf w B 281 bb sv xs) (hB : B ≤ w.heap.size) (hx : xs.length ≤ 100) :
    Calls Tryz.prog 336 #[.pointer (some ⟨g, 0, none⟩), .iface 279 (.pointer (some ⟨bb, 0, none⟩))] w (Gave w B bb sv xs ([])) := by
  go_enter Tryz.func336, Tryz.ntmps336
  go_wp2
  go_ret
  exact Gave.nil hb

set_option maxRecDepth 100000 in
set_option maxHeartbeats 4000000 in
/-- (*txCommit).write -/
theorem wr_txCommit {B bb g : Nat} {sv : Value} {xs : List UInt8} {w : World} (ex : List Value)  (hm : Blk w g 259 (ex).toArray) (hg : g < B) (hb : Buf w B 281 bb sv xs) (hB : B ≤ w.heap.size) (hx : xs.length ≤ 100) :
    Calls Tryz.prog 340 #[.pointer (some ⟨g, 0, none⟩), .iface 279 (.pointer (some ⟨bb, 0, none⟩))] w (Gave w B bb sv xs ([])) := by
  go_enter Tryz.func340, Tryz.ntmps340
  go_wp2
  go_ret
  exact Gave.nil hb

set_option maxRecDepth 100000 in
set_option maxHeartbeats 4000000 in
/-- (*txCommitOk).write -/
theorem wr_txCommitOk {B bb g : Nat} {sv : Value} {xs : List UInt8} {w : World} (ex : List Value)  (hm : Blk w g 261 (ex).toArray) (hg : g < B) (hb : Buf w B 281 bb sv xs) (hB : B ≤ w.heap.size) (hx : xs.length ≤ 100) :
    Calls Tryz.prog 344 #[.pointer (some ⟨g, 0, none⟩), .iface 279 (.pointer (some ⟨bb, 0, none⟩))] w (Gave w B bb sv xs ([])) := by
  go_enter Tryz.func344, Tryz.ntmps344
  go_wp2
  go_ret
  exact Gave.nil hb

set_option maxRecDepth 100000 in
set_option maxHeartbeats 4000000 in
/-- (*txRollback).write -/
theorem wr_txRollback {B bb g : Nat} {sv : Value} {xs : List UInt8} {w : World} (ex : List Value)  (hm : Blk w g 263 (ex).toArray) (hg : g < B) (hb : Buf w B 281 bb sv xs) (hB : B ≤ w.heap.size) (hx : xs.length ≤ 100) :
    Calls Tryz.prog 348 #[.pointer (some ⟨g, 0, none⟩), .iface 279 (.pointer (some ⟨bb, 0, none⟩))] w (Gave w B bb sv xs ([])) := by
  go_enter Tryz.func348, Tryz.ntmps348
  go_wp2
  go_ret
  exact Gave.nil hb

set_option maxRecDepth 100000 in
set_option maxHeartbeats 4000000 in
/-- (*txRollbackOk).write -/
theorem wr_txRollbackOk {B bb g : Nat} {sv : Value} {xs : List UInt8} {w : World} (ex : List Value)  (hm : Blk w g 265 (ex).toArray) (hg : g < B) (hb : Buf w B 281 bb sv xs) (hB : B ≤ w.heap.size) (hx : xs.length ≤ 100) :
    Calls Tryz.prog 352 #[.pointer (some ⟨g, 0, none⟩), .iface 279 (.pointer (some ⟨bb, 0, none⟩))] w (Gave w B bb sv xs ([])) := by
  go_enter Tryz.func352, Tryz.ntmps352
  go_wp2
  go_ret
  exact Gave.nil hb

set_option maxRecDepth 100000 in
set_option maxHeartbeats 4000000 in
/-- (*confirmSelect).write -/
theorem wr_confirmSelect {B bb g : Nat} {sv : Value} {xs : List UInt8} {w : World} (ex : List Value) (b0 : Bool) (hm : Blk w g 268 (.bool b0 :: ex).toArray) (hg : g < B) (hb : Buf w B 281 bb sv xs) (hB : B ≤ w.heap.size) (hx : xs.length ≤ 100) :
    Calls Tryz.prog 356 #[.pointer (some ⟨g, 0, none⟩), .iface 279 (.pointer (some ⟨bb, 0, none⟩))] w (Gave w B bb sv xs (be (bitv [b0]) 1)) := by
  have HM0 := Lib.hid hm
  have HW0 := Lib.hid (Wr.refl w bb sv.ownBlock)
  have HB0 := Lib.hid hb
  have HS0 := Lib.hid hB
  clear hm hb hB
  go_enter Tryz.func356, Tryz.ntmps356
  have c0 : w.cell? ⟨g, 0, none⟩ = some (.bool b0) := by rw [HM0.out.cell]; rfl
  cases b0
  all_goals
    go_wp2_with fail
    refine (fixed8n _ HB0.out HS0.out (by omega) (by decide)).mono ?_
    rintro e w1 ⟨rfl, sv1, hb, hw⟩
    have HM1 := Lib.hid (hw.blkB HM0.out hg HB0.out)
    have HW1 := Lib.hid (HW0.out.trans hw)
    have HS1 := Lib.hid (Nat.le_trans HS0.out hw.size)
    have HB1 := Lib.hid hb
    clear hw hb c0
    go_wp2
    go_ret
    exact ⟨rfl, sv1, by have := HB1.out; simpa [bitv] using this, HW1.out⟩

set_option maxRecDepth 100000 in
set_option maxHeartbeats 4000000 in
/-- (*confirmSelectOk).write -/
theorem wr_confirmSelectOk {B bb g : Nat} {sv : Value} {xs : List UInt8} {w : World} (ex : List Value)  (hm : Blk w g 270 (ex).toArray) (hg : g < B) (hb : Buf w B 281 bb sv xs) (hB : B ≤ w.heap.size) (hx : xs.length ≤ 100) :
    Calls Tryz.prog 360 #[.pointer (some ⟨g, 0, none⟩), .iface 279 (.pointer (some ⟨bb, 0, none⟩))] w (Gave w B bb sv xs ([])) := by
  go_enter Tryz.func360, Tryz.ntmps360
  go_wp2
  go_ret
  exact Gave.nil hb

end Go.Proofs.YtabeppaehenefaaGreat
