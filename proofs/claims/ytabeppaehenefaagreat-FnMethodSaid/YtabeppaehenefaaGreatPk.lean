/-
  Properness of a value, letter by letter.
-/
import Derived.Test.YtabeppaehenefaaGreatPm
namespace Go.Proofs.YtabeppaehenefaaGreat
open Go.RowKit
attribute [local go_sem ↓] Go.wp_at_zero Go.wp_at_succ

def ProperK (d : Nat) (k : Int) : Prop := ∀ (n : Int) (f : Nat) (s : Int) (t : ByteArray) (ks : Vs) (fs : Fs) (a1 : Option Addr) (c1 : Nat) (a2 : Option Addr) (c2 : Nat) (xs ys : List Value) (p : Nat → Prop) (r : Int) (rb : Nat) (w : World),
  (V.mk k n f s t ks fs).ok → Rd w p a1 xs → VsC w p ks xs → ks.len ≤ c1 → Rd w p a2 ys → FsC w p fs ys → fs.len ≤ c2 → (∀ g, p g → g < w.heap.size ∧ g ≠ rb) → Blk w rb 3 #[.int .i64 r] → 0 ≤ r → r ≤ 2000 →
  Calls Tryz.prog 42 #[.agg (vcells k n f s t a1 ks.len c1 a2 fs.len c2).toArray, .int .i64 d, .pointer (some ⟨rb, 0, none⟩)] w (Judged w rb ((V.mk k n f s t ks fs).fit d r))

set_option maxRecDepth 100000 in
set_option maxHeartbeats 8000000 in
theorem pv_98 (d : Nat) (hd : d ≤ 10) (hrec : d = 0 ∨ (ProperT (d - 1) ∧ ProperV (d - 1))) : ProperK d 98 := by
  intro n f s t ks fs a1 c1 a2 c2 xs ys p r rb w hok hR1 hV hc1 hR2 hF hc2 hp hrb hr0 hr1
  have HV := Lib.hid hV
  have HR1 := Lib.hid hR1
  have HR2 := Lib.hid hR2
  have HF := Lib.hid hF
  have HP := Lib.hid hp
  have Hrec := Lib.hid hrec
  rw [V.ok] at hok
  obtain ⟨ok1, ok2, ok3, ok4, ok5, ok6, ok7, ok8, ok9⟩ := hok
  have Hok6 := Lib.hid ok6
  have Hok7 := Lib.hid ok7
  clear hV hR1 hR2 hF hp hrec ok6 ok7
  have hts : t.size ≤ 140737488355328 := ok5
  go_enter Tryz.func42, Tryz.ntmps42
  go_wp2_with fail
  have hrbl := hrb.lt
  have hroom0 := hrb.alloc (.cells (vcells 98 n f s t a1 ks.len c1 a2 fs.len c2).toArray 273)
  have hb30 := Blk.new w 273 (vcells 98 n f s t a1 ks.len c1 a2 fs.len c2).toArray
  have hbut0 : But w (w.alloc (.cells (vcells 98 n f s t a1 ks.len c1 a2 fs.len c2).toArray 273)) [rb] := (But.refl w _).alloc _
  have hXr : ¬ (w.heap.size = rb) := by omega
  generalize w.alloc (.cells (vcells 98 n f s t a1 ks.len c1 a2 fs.len c2).toArray 273) = wx at hroom0 hb30 hbut0 ⊢
  have q0 := hroom0.cell0
  have q1 := hroom0.frozen 0
  have g4 : wx.cell? ⟨w.heap.size, 4, none⟩ = some (.string t) := by rw [hb30.cell]; rfl
  go_region
  clear q0 q1 g4
  have hroom1 : Blk (wx.setCell ⟨rb, 0, none⟩ (.int .i64 (r - (1 + t.size)))).drew rb 3 #[.int .i64 (r - (1 + t.size))] := by
    have := (hroom0.set_ 0 (.int .i64 (r - (1 + t.size)))).drew; simpa using this
  have hb31 : Blk (wx.setCell ⟨rb, 0, none⟩ (.int .i64 (r - (1 + t.size)))).drew w.heap.size 273 (vcells 98 n f s t a1 ks.len c1 a2 fs.len c2).toArray := (hb30.far (by simpa using hXr) _).drew
  have hbut1 : But w (wx.setCell ⟨rb, 0, none⟩ (.int .i64 (r - (1 + t.size)))).drew [rb] := (hbut0.setCell (.inl (by simp)) _).drew
  clear hroom0 hb30 hbut0
  generalize (wx.setCell ⟨rb, 0, none⟩ (.int .i64 (r - (1 + t.size)))).drew = wy at hroom1 hb31 hbut1 ⊢
  obtain ⟨r1, hr1e⟩ : ∃ r1, r1 = r - (1 + (t.size : Int)) := ⟨_, rfl⟩
  rw [← hr1e] at hroom1 ⊢
  have Hr1 := Lib.hid hr1e
  have hrb1 : -281474976710657 ≤ r1 ∧ r1 ≤ 2000 := by omega
  obtain ⟨hrb1, hrb2⟩ := hrb1
  clear hr1e
  have q0 := hroom1.cell0
  obtain ⟨g0, g1, g2, g3, g4, g5, g6⟩ : wy.cell? ⟨w.heap.size, 0, none⟩ = some (.int .u8 98) ∧ wy.cell? ⟨w.heap.size, 1, none⟩ = some (.int .i64 n) ∧ wy.cell? ⟨w.heap.size, 2, none⟩ = some (.float .f64 f) ∧ wy.cell? ⟨w.heap.size, 3, none⟩ = some (.int .i64 s) ∧ wy.cell? ⟨w.heap.size, 4, none⟩ = some (.string t) ∧ wy.cell? ⟨w.heap.size, 5, none⟩ = some (.slice a1 ks.len c1) ∧ wy.cell? ⟨w.heap.size, 6, none⟩ = some (.slice a2 fs.len c2) := by
    refine ⟨?_, ?_, ?_, ?_, ?_, ?_, ?_⟩ <;> (rw [hb31.cell]; rfl)
  by_cases hneg : r1 < 0
  · go_wp2
    go_ret
    exact ⟨false, rfl, hbut1, fun h => by cases h⟩
  by_cases hd0 : d = 0
  · subst hd0
    go_wp2
    go_ret
    exact ⟨false, rfl, hbut1, fun h => by cases h⟩
  obtain ⟨e, rfl⟩ : ∃ e, d = e + 1 := ⟨d - 1, by omega⟩
  have hrec2 : ProperT e ∧ ProperV e := by
    rcases Hrec.out with h | h
    · omega
    · simpa using h
  have HTC := Lib.hid hrec2.1
  have HVC := Lib.hid hrec2.2
  clear hrec2 Hrec hd0
  have hdd : ¬ ((e : Int) + 1 = 0) := by omega
  have hm0 := run_makeMap_plain (P := Tryz.prog) wy 302
  have hm1 := put1 wy
  have hm2 := put2 wy
  have hm3 := put3 wy
  have hm4 := put4 wy
  have hm5 := look_bits wy 98
  rw [show bitsOf 98 = 8 by rfl] at hm5
  have k0 := (hb31.alloc (.map es4 4))
  obtain ⟨g0, g1, g2, g3, g4, g5, g6⟩ : (wy.alloc (.map es4 4)).cell? ⟨w.heap.size, 0, none⟩ = some (.int .u8 98) ∧ (wy.alloc (.map es4 4)).cell? ⟨w.heap.size, 1, none⟩ = some (.int .i64 n) ∧ (wy.alloc (.map es4 4)).cell? ⟨w.heap.size, 2, none⟩ = some (.float .f64 f) ∧ (wy.alloc (.map es4 4)).cell? ⟨w.heap.size, 3, none⟩ = some (.int .i64 s) ∧ (wy.alloc (.map es4 4)).cell? ⟨w.heap.size, 4, none⟩ = some (.string t) ∧ (wy.alloc (.map es4 4)).cell? ⟨w.heap.size, 5, none⟩ = some (.slice a1 ks.len c1) ∧ (wy.alloc (.map es4 4)).cell? ⟨w.heap.size, 6, none⟩ = some (.slice a2 fs.len c2) := by
    refine ⟨?_, ?_, ?_, ?_, ?_, ?_, ?_⟩ <;> (rw [k0.cell]; rfl)
  have hroom9 := hroom1.alloc (.map es4 4)
  have hbut9 := hbut1.alloc (.map es4 4)
  have hr10 : ¬ (r1 < 0 ∨ e + 1 = 0) := by omega
  by_cases h1 : n < -128
  · go_wp2
    go_ret
    exact ⟨false, rfl, hbut9, fun h => by cases h⟩
  by_cases h2 : n > 127
  · go_wp2
    go_ret
    exact ⟨false, rfl, hbut9, fun h => by cases h⟩
  · go_wp2
    go_ret
    exact ⟨true, rfl, hbut9, fun _ => ⟨r1, by rw [V.fit, ← Hr1.out, if_neg hr10]; simp [inBits, bounds]; try omega, hroom9⟩⟩

set_option maxRecDepth 100000 in
set_option maxHeartbeats 8000000 in
theorem pv_115 (d : Nat) (hd : d ≤ 10) (hrec : d = 0 ∨ (ProperT (d - 1) ∧ ProperV (d - 1))) : ProperK d 115 := by
  intro n f s t ks fs a1 c1 a2 c2 xs ys p r rb w hok hR1 hV hc1 hR2 hF hc2 hp hrb hr0 hr1
  have HV := Lib.hid hV
  have HR1 := Lib.hid hR1
  have HR2 := Lib.hid hR2
  have HF := Lib.hid hF
  have HP := Lib.hid hp
  have Hrec := Lib.hid hrec
  rw [V.ok] at hok
  obtain ⟨ok1, ok2, ok3, ok4, ok5, ok6, ok7, ok8, ok9⟩ := hok
  have Hok6 := Lib.hid ok6
  have Hok7 := Lib.hid ok7
  clear hV hR1 hR2 hF hp hrec ok6 ok7
  have hts : t.size ≤ 140737488355328 := ok5
  go_enter Tryz.func42, Tryz.ntmps42
  go_wp2_with fail
  have hrbl := hrb.lt
  have hroom0 := hrb.alloc (.cells (vcells 115 n f s t a1 ks.len c1 a2 fs.len c2).toArray 273)
  have hb30 := Blk.new w 273 (vcells 115 n f s t a1 ks.len c1 a2 fs.len c2).toArray
  have hbut0 : But w (w.alloc (.cells (vcells 115 n f s t a1 ks.len c1 a2 fs.len c2).toArray 273)) [rb] := (But.refl w _).alloc _
  have hXr : ¬ (w.heap.size = rb) := by omega
  generalize w.alloc (.cells (vcells 115 n f s t a1 ks.len c1 a2 fs.len c2).toArray 273) = wx at hroom0 hb30 hbut0 ⊢
  have q0 := hroom0.cell0
  have q1 := hroom0.frozen 0
  have g4 : wx.cell? ⟨w.heap.size, 4, none⟩ = some (.string t) := by rw [hb30.cell]; rfl
  go_region
  clear q0 q1 g4
  have hroom1 : Blk (wx.setCell ⟨rb, 0, none⟩ (.int .i64 (r - (1 + t.size)))).drew rb 3 #[.int .i64 (r - (1 + t.size))] := by
    have := (hroom0.set_ 0 (.int .i64 (r - (1 + t.size)))).drew; simpa using this
  have hb31 : Blk (wx.setCell ⟨rb, 0, none⟩ (.int .i64 (r - (1 + t.size)))).drew w.heap.size 273 (vcells 115 n f s t a1 ks.len c1 a2 fs.len c2).toArray := (hb30.far (by simpa using hXr) _).drew
  have hbut1 : But w (wx.setCell ⟨rb, 0, none⟩ (.int .i64 (r - (1 + t.size)))).drew [rb] := (hbut0.setCell (.inl (by simp)) _).drew
  clear hroom0 hb30 hbut0
  generalize (wx.setCell ⟨rb, 0, none⟩ (.int .i64 (r - (1 + t.size)))).drew = wy at hroom1 hb31 hbut1 ⊢
  obtain ⟨r1, hr1e⟩ : ∃ r1, r1 = r - (1 + (t.size : Int)) := ⟨_, rfl⟩
  rw [← hr1e] at hroom1 ⊢
  have Hr1 := Lib.hid hr1e
  have hrb1 : -281474976710657 ≤ r1 ∧ r1 ≤ 2000 := by omega
  obtain ⟨hrb1, hrb2⟩ := hrb1
  clear hr1e
  have q0 := hroom1.cell0
  obtain ⟨g0, g1, g2, g3, g4, g5, g6⟩ : wy.cell? ⟨w.heap.size, 0, none⟩ = some (.int .u8 115) ∧ wy.cell? ⟨w.heap.size, 1, none⟩ = some (.int .i64 n) ∧ wy.cell? ⟨w.heap.size, 2, none⟩ = some (.float .f64 f) ∧ wy.cell? ⟨w.heap.size, 3, none⟩ = some (.int .i64 s) ∧ wy.cell? ⟨w.heap.size, 4, none⟩ = some (.string t) ∧ wy.cell? ⟨w.heap.size, 5, none⟩ = some (.slice a1 ks.len c1) ∧ wy.cell? ⟨w.heap.size, 6, none⟩ = some (.slice a2 fs.len c2) := by
    refine ⟨?_, ?_, ?_, ?_, ?_, ?_, ?_⟩ <;> (rw [hb31.cell]; rfl)
  by_cases hneg : r1 < 0
  · go_wp2
    go_ret
    exact ⟨false, rfl, hbut1, fun h => by cases h⟩
  by_cases hd0 : d = 0
  · subst hd0
    go_wp2
    go_ret
    exact ⟨false, rfl, hbut1, fun h => by cases h⟩
  obtain ⟨e, rfl⟩ : ∃ e, d = e + 1 := ⟨d - 1, by omega⟩
  have hrec2 : ProperT e ∧ ProperV e := by
    rcases Hrec.out with h | h
    · omega
    · simpa using h
  have HTC := Lib.hid hrec2.1
  have HVC := Lib.hid hrec2.2
  clear hrec2 Hrec hd0
  have hdd : ¬ ((e : Int) + 1 = 0) := by omega
  have hm0 := run_makeMap_plain (P := Tryz.prog) wy 302
  have hm1 := put1 wy
  have hm2 := put2 wy
  have hm3 := put3 wy
  have hm4 := put4 wy
  have hm5 := look_bits wy 115
  rw [show bitsOf 115 = 16 by rfl] at hm5
  have k0 := (hb31.alloc (.map es4 4))
  obtain ⟨g0, g1, g2, g3, g4, g5, g6⟩ : (wy.alloc (.map es4 4)).cell? ⟨w.heap.size, 0, none⟩ = some (.int .u8 115) ∧ (wy.alloc (.map es4 4)).cell? ⟨w.heap.size, 1, none⟩ = some (.int .i64 n) ∧ (wy.alloc (.map es4 4)).cell? ⟨w.heap.size, 2, none⟩ = some (.float .f64 f) ∧ (wy.alloc (.map es4 4)).cell? ⟨w.heap.size, 3, none⟩ = some (.int .i64 s) ∧ (wy.alloc (.map es4 4)).cell? ⟨w.heap.size, 4, none⟩ = some (.string t) ∧ (wy.alloc (.map es4 4)).cell? ⟨w.heap.size, 5, none⟩ = some (.slice a1 ks.len c1) ∧ (wy.alloc (.map es4 4)).cell? ⟨w.heap.size, 6, none⟩ = some (.slice a2 fs.len c2) := by
    refine ⟨?_, ?_, ?_, ?_, ?_, ?_, ?_⟩ <;> (rw [k0.cell]; rfl)
  have hroom9 := hroom1.alloc (.map es4 4)
  have hbut9 := hbut1.alloc (.map es4 4)
  have hr10 : ¬ (r1 < 0 ∨ e + 1 = 0) := by omega
  by_cases h1 : n < -32768
  · go_wp2
    go_ret
    exact ⟨false, rfl, hbut9, fun h => by cases h⟩
  by_cases h2 : n > 32767
  · go_wp2
    go_ret
    exact ⟨false, rfl, hbut9, fun h => by cases h⟩
  · go_wp2
    go_ret
    exact ⟨true, rfl, hbut9, fun _ => ⟨r1, by rw [V.fit, ← Hr1.out, if_neg hr10]; simp [inBits, bounds]; try omega, hroom9⟩⟩

set_option maxRecDepth 100000 in
set_option maxHeartbeats 8000000 in
theorem pv_73 (d : Nat) (hd : d ≤ 10) (hrec : d = 0 ∨ (ProperT (d - 1) ∧ ProperV (d - 1))) : ProperK d 73 := by
  intro n f s t ks fs a1 c1 a2 c2 xs ys p r rb w hok hR1 hV hc1 hR2 hF hc2 hp hrb hr0 hr1
  have HV := Lib.hid hV
  have HR1 := Lib.hid hR1
  have HR2 := Lib.hid hR2
  have HF := Lib.hid hF
  have HP := Lib.hid hp
  have Hrec := Lib.hid hrec
  rw [V.ok] at hok
  obtain ⟨ok1, ok2, ok3, ok4, ok5, ok6, ok7, ok8, ok9⟩ := hok
  have Hok6 := Lib.hid ok6
  have Hok7 := Lib.hid ok7
  clear hV hR1 hR2 hF hp hrec ok6 ok7
  have hts : t.size ≤ 140737488355328 := ok5
  go_enter Tryz.func42, Tryz.ntmps42
  go_wp2_with fail
  have hrbl := hrb.lt
  have hroom0 := hrb.alloc (.cells (vcells 73 n f s t a1 ks.len c1 a2 fs.len c2).toArray 273)
  have hb30 := Blk.new w 273 (vcells 73 n f s t a1 ks.len c1 a2 fs.len c2).toArray
  have hbut0 : But w (w.alloc (.cells (vcells 73 n f s t a1 ks.len c1 a2 fs.len c2).toArray 273)) [rb] := (But.refl w _).alloc _
  have hXr : ¬ (w.heap.size = rb) := by omega
  generalize w.alloc (.cells (vcells 73 n f s t a1 ks.len c1 a2 fs.len c2).toArray 273) = wx at hroom0 hb30 hbut0 ⊢
  have q0 := hroom0.cell0
  have q1 := hroom0.frozen 0
  have g4 : wx.cell? ⟨w.heap.size, 4, none⟩ = some (.string t) := by rw [hb30.cell]; rfl
  go_region
  clear q0 q1 g4
  have hroom1 : Blk (wx.setCell ⟨rb, 0, none⟩ (.int .i64 (r - (1 + t.size)))).drew rb 3 #[.int .i64 (r - (1 + t.size))] := by
    have := (hroom0.set_ 0 (.int .i64 (r - (1 + t.size)))).drew; simpa using this
  have hb31 : Blk (wx.setCell ⟨rb, 0, none⟩ (.int .i64 (r - (1 + t.size)))).drew w.heap.size 273 (vcells 73 n f s t a1 ks.len c1 a2 fs.len c2).toArray := (hb30.far (by simpa using hXr) _).drew
  have hbut1 : But w (wx.setCell ⟨rb, 0, none⟩ (.int .i64 (r - (1 + t.size)))).drew [rb] := (hbut0.setCell (.inl (by simp)) _).drew
  clear hroom0 hb30 hbut0
  generalize (wx.setCell ⟨rb, 0, none⟩ (.int .i64 (r - (1 + t.size)))).drew = wy at hroom1 hb31 hbut1 ⊢
  obtain ⟨r1, hr1e⟩ : ∃ r1, r1 = r - (1 + (t.size : Int)) := ⟨_, rfl⟩
  rw [← hr1e] at hroom1 ⊢
  have Hr1 := Lib.hid hr1e
  have hrb1 : -281474976710657 ≤ r1 ∧ r1 ≤ 2000 := by omega
  obtain ⟨hrb1, hrb2⟩ := hrb1
  clear hr1e
  have q0 := hroom1.cell0
  obtain ⟨g0, g1, g2, g3, g4, g5, g6⟩ : wy.cell? ⟨w.heap.size, 0, none⟩ = some (.int .u8 73) ∧ wy.cell? ⟨w.heap.size, 1, none⟩ = some (.int .i64 n) ∧ wy.cell? ⟨w.heap.size, 2, none⟩ = some (.float .f64 f) ∧ wy.cell? ⟨w.heap.size, 3, none⟩ = some (.int .i64 s) ∧ wy.cell? ⟨w.heap.size, 4, none⟩ = some (.string t) ∧ wy.cell? ⟨w.heap.size, 5, none⟩ = some (.slice a1 ks.len c1) ∧ wy.cell? ⟨w.heap.size, 6, none⟩ = some (.slice a2 fs.len c2) := by
    refine ⟨?_, ?_, ?_, ?_, ?_, ?_, ?_⟩ <;> (rw [hb31.cell]; rfl)
  by_cases hneg : r1 < 0
  · go_wp2
    go_ret
    exact ⟨false, rfl, hbut1, fun h => by cases h⟩
  by_cases hd0 : d = 0
  · subst hd0
    go_wp2
    go_ret
    exact ⟨false, rfl, hbut1, fun h => by cases h⟩
  obtain ⟨e, rfl⟩ : ∃ e, d = e + 1 := ⟨d - 1, by omega⟩
  have hrec2 : ProperT e ∧ ProperV e := by
    rcases Hrec.out with h | h
    · omega
    · simpa using h
  have HTC := Lib.hid hrec2.1
  have HVC := Lib.hid hrec2.2
  clear hrec2 Hrec hd0
  have hdd : ¬ ((e : Int) + 1 = 0) := by omega
  have hm0 := run_makeMap_plain (P := Tryz.prog) wy 302
  have hm1 := put1 wy
  have hm2 := put2 wy
  have hm3 := put3 wy
  have hm4 := put4 wy
  have hm5 := look_bits wy 73
  rw [show bitsOf 73 = 32 by rfl] at hm5
  have k0 := (hb31.alloc (.map es4 4))
  obtain ⟨g0, g1, g2, g3, g4, g5, g6⟩ : (wy.alloc (.map es4 4)).cell? ⟨w.heap.size, 0, none⟩ = some (.int .u8 73) ∧ (wy.alloc (.map es4 4)).cell? ⟨w.heap.size, 1, none⟩ = some (.int .i64 n) ∧ (wy.alloc (.map es4 4)).cell? ⟨w.heap.size, 2, none⟩ = some (.float .f64 f) ∧ (wy.alloc (.map es4 4)).cell? ⟨w.heap.size, 3, none⟩ = some (.int .i64 s) ∧ (wy.alloc (.map es4 4)).cell? ⟨w.heap.size, 4, none⟩ = some (.string t) ∧ (wy.alloc (.map es4 4)).cell? ⟨w.heap.size, 5, none⟩ = some (.slice a1 ks.len c1) ∧ (wy.alloc (.map es4 4)).cell? ⟨w.heap.size, 6, none⟩ = some (.slice a2 fs.len c2) := by
    refine ⟨?_, ?_, ?_, ?_, ?_, ?_, ?_⟩ <;> (rw [k0.cell]; rfl)
  have hroom9 := hroom1.alloc (.map es4 4)
  have hbut9 := hbut1.alloc (.map es4 4)
  have hr10 : ¬ (r1 < 0 ∨ e + 1 = 0) := by omega
  by_cases h1 : n < -2147483648
  · go_wp2
    go_ret
    exact ⟨false, rfl, hbut9, fun h => by cases h⟩
  by_cases h2 : n > 2147483647
  · go_wp2
    go_ret
    exact ⟨false, rfl, hbut9, fun h => by cases h⟩
  · go_wp2
    go_ret
    exact ⟨true, rfl, hbut9, fun _ => ⟨r1, by rw [V.fit, ← Hr1.out, if_neg hr10]; simp [inBits, bounds]; try omega, hroom9⟩⟩

set_option maxRecDepth 100000 in
set_option maxHeartbeats 8000000 in
theorem pv_108 (d : Nat) (hd : d ≤ 10) (hrec : d = 0 ∨ (ProperT (d - 1) ∧ ProperV (d - 1))) : ProperK d 108 := by
  intro n f s t ks fs a1 c1 a2 c2 xs ys p r rb w hok hR1 hV hc1 hR2 hF hc2 hp hrb hr0 hr1
  have HV := Lib.hid hV
  have HR1 := Lib.hid hR1
  have HR2 := Lib.hid hR2
  have HF := Lib.hid hF
  have HP := Lib.hid hp
  have Hrec := Lib.hid hrec
  rw [V.ok] at hok
  obtain ⟨ok1, ok2, ok3, ok4, ok5, ok6, ok7, ok8, ok9⟩ := hok
  have Hok6 := Lib.hid ok6
  have Hok7 := Lib.hid ok7
  clear hV hR1 hR2 hF hp hrec ok6 ok7
  have hts : t.size ≤ 140737488355328 := ok5
  go_enter Tryz.func42, Tryz.ntmps42
  go_wp2_with fail
  have hrbl := hrb.lt
  have hroom0 := hrb.alloc (.cells (vcells 108 n f s t a1 ks.len c1 a2 fs.len c2).toArray 273)
  have hb30 := Blk.new w 273 (vcells 108 n f s t a1 ks.len c1 a2 fs.len c2).toArray
  have hbut0 : But w (w.alloc (.cells (vcells 108 n f s t a1 ks.len c1 a2 fs.len c2).toArray 273)) [rb] := (But.refl w _).alloc _
  have hXr : ¬ (w.heap.size = rb) := by omega
  generalize w.alloc (.cells (vcells 108 n f s t a1 ks.len c1 a2 fs.len c2).toArray 273) = wx at hroom0 hb30 hbut0 ⊢
  have q0 := hroom0.cell0
  have q1 := hroom0.frozen 0
  have g4 : wx.cell? ⟨w.heap.size, 4, none⟩ = some (.string t) := by rw [hb30.cell]; rfl
  go_region
  clear q0 q1 g4
  have hroom1 : Blk (wx.setCell ⟨rb, 0, none⟩ (.int .i64 (r - (1 + t.size)))).drew rb 3 #[.int .i64 (r - (1 + t.size))] := by
    have := (hroom0.set_ 0 (.int .i64 (r - (1 + t.size)))).drew; simpa using this
  have hb31 : Blk (wx.setCell ⟨rb, 0, none⟩ (.int .i64 (r - (1 + t.size)))).drew w.heap.size 273 (vcells 108 n f s t a1 ks.len c1 a2 fs.len c2).toArray := (hb30.far (by simpa using hXr) _).drew
  have hbut1 : But w (wx.setCell ⟨rb, 0, none⟩ (.int .i64 (r - (1 + t.size)))).drew [rb] := (hbut0.setCell (.inl (by simp)) _).drew
  clear hroom0 hb30 hbut0
  generalize (wx.setCell ⟨rb, 0, none⟩ (.int .i64 (r - (1 + t.size)))).drew = wy at hroom1 hb31 hbut1 ⊢
  obtain ⟨r1, hr1e⟩ : ∃ r1, r1 = r - (1 + (t.size : Int)) := ⟨_, rfl⟩
  rw [← hr1e] at hroom1 ⊢
  have Hr1 := Lib.hid hr1e
  have hrb1 : -281474976710657 ≤ r1 ∧ r1 ≤ 2000 := by omega
  obtain ⟨hrb1, hrb2⟩ := hrb1
  clear hr1e
  have q0 := hroom1.cell0
  obtain ⟨g0, g1, g2, g3, g4, g5, g6⟩ : wy.cell? ⟨w.heap.size, 0, none⟩ = some (.int .u8 108) ∧ wy.cell? ⟨w.heap.size, 1, none⟩ = some (.int .i64 n) ∧ wy.cell? ⟨w.heap.size, 2, none⟩ = some (.float .f64 f) ∧ wy.cell? ⟨w.heap.size, 3, none⟩ = some (.int .i64 s) ∧ wy.cell? ⟨w.heap.size, 4, none⟩ = some (.string t) ∧ wy.cell? ⟨w.heap.size, 5, none⟩ = some (.slice a1 ks.len c1) ∧ wy.cell? ⟨w.heap.size, 6, none⟩ = some (.slice a2 fs.len c2) := by
    refine ⟨?_, ?_, ?_, ?_, ?_, ?_, ?_⟩ <;> (rw [hb31.cell]; rfl)
  by_cases hneg : r1 < 0
  · go_wp2
    go_ret
    exact ⟨false, rfl, hbut1, fun h => by cases h⟩
  by_cases hd0 : d = 0
  · subst hd0
    go_wp2
    go_ret
    exact ⟨false, rfl, hbut1, fun h => by cases h⟩
  obtain ⟨e, rfl⟩ : ∃ e, d = e + 1 := ⟨d - 1, by omega⟩
  have hrec2 : ProperT e ∧ ProperV e := by
    rcases Hrec.out with h | h
    · omega
    · simpa using h
  have HTC := Lib.hid hrec2.1
  have HVC := Lib.hid hrec2.2
  clear hrec2 Hrec hd0
  have hdd : ¬ ((e : Int) + 1 = 0) := by omega
  have hm0 := run_makeMap_plain (P := Tryz.prog) wy 302
  have hm1 := put1 wy
  have hm2 := put2 wy
  have hm3 := put3 wy
  have hm4 := put4 wy
  have hm5 := look_bits wy 108
  rw [show bitsOf 108 = 0 by rfl] at hm5
  have k0 := (hb31.alloc (.map es4 4))
  obtain ⟨g0, g1, g2, g3, g4, g5, g6⟩ : (wy.alloc (.map es4 4)).cell? ⟨w.heap.size, 0, none⟩ = some (.int .u8 108) ∧ (wy.alloc (.map es4 4)).cell? ⟨w.heap.size, 1, none⟩ = some (.int .i64 n) ∧ (wy.alloc (.map es4 4)).cell? ⟨w.heap.size, 2, none⟩ = some (.float .f64 f) ∧ (wy.alloc (.map es4 4)).cell? ⟨w.heap.size, 3, none⟩ = some (.int .i64 s) ∧ (wy.alloc (.map es4 4)).cell? ⟨w.heap.size, 4, none⟩ = some (.string t) ∧ (wy.alloc (.map es4 4)).cell? ⟨w.heap.size, 5, none⟩ = some (.slice a1 ks.len c1) ∧ (wy.alloc (.map es4 4)).cell? ⟨w.heap.size, 6, none⟩ = some (.slice a2 fs.len c2) := by
    refine ⟨?_, ?_, ?_, ?_, ?_, ?_, ?_⟩ <;> (rw [k0.cell]; rfl)
  have hroom9 := hroom1.alloc (.map es4 4)
  have hbut9 := hbut1.alloc (.map es4 4)
  have hr10 : ¬ (r1 < 0 ∨ e + 1 = 0) := by omega
  · go_wp2
    go_ret
    exact ⟨true, rfl, hbut9, fun _ => ⟨r1, by rw [V.fit, ← Hr1.out, if_neg hr10]; simp [inBits, bounds]; try omega, hroom9⟩⟩

set_option maxRecDepth 100000 in
set_option maxHeartbeats 8000000 in
theorem pv_83 (d : Nat) (hd : d ≤ 10) (hrec : d = 0 ∨ (ProperT (d - 1) ∧ ProperV (d - 1))) : ProperK d 83 := by
  intro n f s t ks fs a1 c1 a2 c2 xs ys p r rb w hok hR1 hV hc1 hR2 hF hc2 hp hrb hr0 hr1
  have HV := Lib.hid hV
  have HR1 := Lib.hid hR1
  have HR2 := Lib.hid hR2
  have HF := Lib.hid hF
  have HP := Lib.hid hp
  have Hrec := Lib.hid hrec
  rw [V.ok] at hok
  obtain ⟨ok1, ok2, ok3, ok4, ok5, ok6, ok7, ok8, ok9⟩ := hok
  have Hok6 := Lib.hid ok6
  have Hok7 := Lib.hid ok7
  clear hV hR1 hR2 hF hp hrec ok6 ok7
  have hts : t.size ≤ 140737488355328 := ok5
  go_enter Tryz.func42, Tryz.ntmps42
  go_wp2_with fail
  have hrbl := hrb.lt
  have hroom0 := hrb.alloc (.cells (vcells 83 n f s t a1 ks.len c1 a2 fs.len c2).toArray 273)
  have hb30 := Blk.new w 273 (vcells 83 n f s t a1 ks.len c1 a2 fs.len c2).toArray
  have hbut0 : But w (w.alloc (.cells (vcells 83 n f s t a1 ks.len c1 a2 fs.len c2).toArray 273)) [rb] := (But.refl w _).alloc _
  have hXr : ¬ (w.heap.size = rb) := by omega
  generalize w.alloc (.cells (vcells 83 n f s t a1 ks.len c1 a2 fs.len c2).toArray 273) = wx at hroom0 hb30 hbut0 ⊢
  have q0 := hroom0.cell0
  have q1 := hroom0.frozen 0
  have g4 : wx.cell? ⟨w.heap.size, 4, none⟩ = some (.string t) := by rw [hb30.cell]; rfl
  go_region
  clear q0 q1 g4
  have hroom1 : Blk (wx.setCell ⟨rb, 0, none⟩ (.int .i64 (r - (1 + t.size)))).drew rb 3 #[.int .i64 (r - (1 + t.size))] := by
    have := (hroom0.set_ 0 (.int .i64 (r - (1 + t.size)))).drew; simpa using this
  have hb31 : Blk (wx.setCell ⟨rb, 0, none⟩ (.int .i64 (r - (1 + t.size)))).drew w.heap.size 273 (vcells 83 n f s t a1 ks.len c1 a2 fs.len c2).toArray := (hb30.far (by simpa using hXr) _).drew
  have hbut1 : But w (wx.setCell ⟨rb, 0, none⟩ (.int .i64 (r - (1 + t.size)))).drew [rb] := (hbut0.setCell (.inl (by simp)) _).drew
  clear hroom0 hb30 hbut0
  generalize (wx.setCell ⟨rb, 0, none⟩ (.int .i64 (r - (1 + t.size)))).drew = wy at hroom1 hb31 hbut1 ⊢
  obtain ⟨r1, hr1e⟩ : ∃ r1, r1 = r - (1 + (t.size : Int)) := ⟨_, rfl⟩
  rw [← hr1e] at hroom1 ⊢
  have Hr1 := Lib.hid hr1e
  have hrb1 : -281474976710657 ≤ r1 ∧ r1 ≤ 2000 := by omega
  obtain ⟨hrb1, hrb2⟩ := hrb1
  clear hr1e
  have q0 := hroom1.cell0
  obtain ⟨g0, g1, g2, g3, g4, g5, g6⟩ : wy.cell? ⟨w.heap.size, 0, none⟩ = some (.int .u8 83) ∧ wy.cell? ⟨w.heap.size, 1, none⟩ = some (.int .i64 n) ∧ wy.cell? ⟨w.heap.size, 2, none⟩ = some (.float .f64 f) ∧ wy.cell? ⟨w.heap.size, 3, none⟩ = some (.int .i64 s) ∧ wy.cell? ⟨w.heap.size, 4, none⟩ = some (.string t) ∧ wy.cell? ⟨w.heap.size, 5, none⟩ = some (.slice a1 ks.len c1) ∧ wy.cell? ⟨w.heap.size, 6, none⟩ = some (.slice a2 fs.len c2) := by
    refine ⟨?_, ?_, ?_, ?_, ?_, ?_, ?_⟩ <;> (rw [hb31.cell]; rfl)
  by_cases hneg : r1 < 0
  · go_wp2
    go_ret
    exact ⟨false, rfl, hbut1, fun h => by cases h⟩
  by_cases hd0 : d = 0
  · subst hd0
    go_wp2
    go_ret
    exact ⟨false, rfl, hbut1, fun h => by cases h⟩
  obtain ⟨e, rfl⟩ : ∃ e, d = e + 1 := ⟨d - 1, by omega⟩
  have hrec2 : ProperT e ∧ ProperV e := by
    rcases Hrec.out with h | h
    · omega
    · simpa using h
  have HTC := Lib.hid hrec2.1
  have HVC := Lib.hid hrec2.2
  clear hrec2 Hrec hd0
  have hdd : ¬ ((e : Int) + 1 = 0) := by omega
  have hm0 := run_makeMap_plain (P := Tryz.prog) wy 302
  have hm1 := put1 wy
  have hm2 := put2 wy
  have hm3 := put3 wy
  have hm4 := put4 wy
  have hm5 := look_bits wy 83
  rw [show bitsOf 83 = 0 by rfl] at hm5
  have k0 := (hb31.alloc (.map es4 4))
  obtain ⟨g0, g1, g2, g3, g4, g5, g6⟩ : (wy.alloc (.map es4 4)).cell? ⟨w.heap.size, 0, none⟩ = some (.int .u8 83) ∧ (wy.alloc (.map es4 4)).cell? ⟨w.heap.size, 1, none⟩ = some (.int .i64 n) ∧ (wy.alloc (.map es4 4)).cell? ⟨w.heap.size, 2, none⟩ = some (.float .f64 f) ∧ (wy.alloc (.map es4 4)).cell? ⟨w.heap.size, 3, none⟩ = some (.int .i64 s) ∧ (wy.alloc (.map es4 4)).cell? ⟨w.heap.size, 4, none⟩ = some (.string t) ∧ (wy.alloc (.map es4 4)).cell? ⟨w.heap.size, 5, none⟩ = some (.slice a1 ks.len c1) ∧ (wy.alloc (.map es4 4)).cell? ⟨w.heap.size, 6, none⟩ = some (.slice a2 fs.len c2) := by
    refine ⟨?_, ?_, ?_, ?_, ?_, ?_, ?_⟩ <;> (rw [k0.cell]; rfl)
  have hroom9 := hroom1.alloc (.map es4 4)
  have hbut9 := hbut1.alloc (.map es4 4)
  have hr10 : ¬ (r1 < 0 ∨ e + 1 = 0) := by omega
  · go_wp2
    go_ret
    exact ⟨true, rfl, hbut9, fun _ => ⟨r1, by rw [V.fit, ← Hr1.out, if_neg hr10]; simp [inBits, bounds]; try omega, hroom9⟩⟩

set_option maxRecDepth 100000 in
set_option maxHeartbeats 8000000 in
theorem pv_120 (d : Nat) (hd : d ≤ 10) (hrec : d = 0 ∨ (ProperT (d - 1) ∧ ProperV (d - 1))) : ProperK d 120 := by
  intro n f s t ks fs a1 c1 a2 c2 xs ys p r rb w hok hR1 hV hc1 hR2 hF hc2 hp hrb hr0 hr1
  have HV := Lib.hid hV
  have HR1 := Lib.hid hR1
  have HR2 := Lib.hid hR2
  have HF := Lib.hid hF
  have HP := Lib.hid hp
  have Hrec := Lib.hid hrec
  rw [V.ok] at hok
  obtain ⟨ok1, ok2, ok3, ok4, ok5, ok6, ok7, ok8, ok9⟩ := hok
  have Hok6 := Lib.hid ok6
  have Hok7 := Lib.hid ok7
  clear hV hR1 hR2 hF hp hrec ok6 ok7
  have hts : t.size ≤ 140737488355328 := ok5
  go_enter Tryz.func42, Tryz.ntmps42
  go_wp2_with fail
  have hrbl := hrb.lt
  have hroom0 := hrb.alloc (.cells (vcells 120 n f s t a1 ks.len c1 a2 fs.len c2).toArray 273)
  have hb30 := Blk.new w 273 (vcells 120 n f s t a1 ks.len c1 a2 fs.len c2).toArray
  have hbut0 : But w (w.alloc (.cells (vcells 120 n f s t a1 ks.len c1 a2 fs.len c2).toArray 273)) [rb] := (But.refl w _).alloc _
  have hXr : ¬ (w.heap.size = rb) := by omega
  generalize w.alloc (.cells (vcells 120 n f s t a1 ks.len c1 a2 fs.len c2).toArray 273) = wx at hroom0 hb30 hbut0 ⊢
  have q0 := hroom0.cell0
  have q1 := hroom0.frozen 0
  have g4 : wx.cell? ⟨w.heap.size, 4, none⟩ = some (.string t) := by rw [hb30.cell]; rfl
  go_region
  clear q0 q1 g4
  have hroom1 : Blk (wx.setCell ⟨rb, 0, none⟩ (.int .i64 (r - (1 + t.size)))).drew rb 3 #[.int .i64 (r - (1 + t.size))] := by
    have := (hroom0.set_ 0 (.int .i64 (r - (1 + t.size)))).drew; simpa using this
  have hb31 : Blk (wx.setCell ⟨rb, 0, none⟩ (.int .i64 (r - (1 + t.size)))).drew w.heap.size 273 (vcells 120 n f s t a1 ks.len c1 a2 fs.len c2).toArray := (hb30.far (by simpa using hXr) _).drew
  have hbut1 : But w (wx.setCell ⟨rb, 0, none⟩ (.int .i64 (r - (1 + t.size)))).drew [rb] := (hbut0.setCell (.inl (by simp)) _).drew
  clear hroom0 hb30 hbut0
  generalize (wx.setCell ⟨rb, 0, none⟩ (.int .i64 (r - (1 + t.size)))).drew = wy at hroom1 hb31 hbut1 ⊢
  obtain ⟨r1, hr1e⟩ : ∃ r1, r1 = r - (1 + (t.size : Int)) := ⟨_, rfl⟩
  rw [← hr1e] at hroom1 ⊢
  have Hr1 := Lib.hid hr1e
  have hrb1 : -281474976710657 ≤ r1 ∧ r1 ≤ 2000 := by omega
  obtain ⟨hrb1, hrb2⟩ := hrb1
  clear hr1e
  have q0 := hroom1.cell0
  obtain ⟨g0, g1, g2, g3, g4, g5, g6⟩ : wy.cell? ⟨w.heap.size, 0, none⟩ = some (.int .u8 120) ∧ wy.cell? ⟨w.heap.size, 1, none⟩ = some (.int .i64 n) ∧ wy.cell? ⟨w.heap.size, 2, none⟩ = some (.float .f64 f) ∧ wy.cell? ⟨w.heap.size, 3, none⟩ = some (.int .i64 s) ∧ wy.cell? ⟨w.heap.size, 4, none⟩ = some (.string t) ∧ wy.cell? ⟨w.heap.size, 5, none⟩ = some (.slice a1 ks.len c1) ∧ wy.cell? ⟨w.heap.size, 6, none⟩ = some (.slice a2 fs.len c2) := by
    refine ⟨?_, ?_, ?_, ?_, ?_, ?_, ?_⟩ <;> (rw [hb31.cell]; rfl)
  by_cases hneg : r1 < 0
  · go_wp2
    go_ret
    exact ⟨false, rfl, hbut1, fun h => by cases h⟩
  by_cases hd0 : d = 0
  · subst hd0
    go_wp2
    go_ret
    exact ⟨false, rfl, hbut1, fun h => by cases h⟩
  obtain ⟨e, rfl⟩ : ∃ e, d = e + 1 := ⟨d - 1, by omega⟩
  have hrec2 : ProperT e ∧ ProperV e := by
    rcases Hrec.out with h | h
    · omega
    · simpa using h
  have HTC := Lib.hid hrec2.1
  have HVC := Lib.hid hrec2.2
  clear hrec2 Hrec hd0
  have hdd : ¬ ((e : Int) + 1 = 0) := by omega
  have hm0 := run_makeMap_plain (P := Tryz.prog) wy 302
  have hm1 := put1 wy
  have hm2 := put2 wy
  have hm3 := put3 wy
  have hm4 := put4 wy
  have hm5 := look_bits wy 120
  rw [show bitsOf 120 = 0 by rfl] at hm5
  have k0 := (hb31.alloc (.map es4 4))
  obtain ⟨g0, g1, g2, g3, g4, g5, g6⟩ : (wy.alloc (.map es4 4)).cell? ⟨w.heap.size, 0, none⟩ = some (.int .u8 120) ∧ (wy.alloc (.map es4 4)).cell? ⟨w.heap.size, 1, none⟩ = some (.int .i64 n) ∧ (wy.alloc (.map es4 4)).cell? ⟨w.heap.size, 2, none⟩ = some (.float .f64 f) ∧ (wy.alloc (.map es4 4)).cell? ⟨w.heap.size, 3, none⟩ = some (.int .i64 s) ∧ (wy.alloc (.map es4 4)).cell? ⟨w.heap.size, 4, none⟩ = some (.string t) ∧ (wy.alloc (.map es4 4)).cell? ⟨w.heap.size, 5, none⟩ = some (.slice a1 ks.len c1) ∧ (wy.alloc (.map es4 4)).cell? ⟨w.heap.size, 6, none⟩ = some (.slice a2 fs.len c2) := by
    refine ⟨?_, ?_, ?_, ?_, ?_, ?_, ?_⟩ <;> (rw [k0.cell]; rfl)
  have hroom9 := hroom1.alloc (.map es4 4)
  have hbut9 := hbut1.alloc (.map es4 4)
  have hr10 : ¬ (r1 < 0 ∨ e + 1 = 0) := by omega
  · go_wp2
    go_ret
    exact ⟨true, rfl, hbut9, fun _ => ⟨r1, by rw [V.fit, ← Hr1.out, if_neg hr10]; simp [inBits, bounds]; try omega, hroom9⟩⟩

set_option maxRecDepth 100000 in
set_option maxHeartbeats 8000000 in
theorem pv_86 (d : Nat) (hd : d ≤ 10) (hrec : d = 0 ∨ (ProperT (d - 1) ∧ ProperV (d - 1))) : ProperK d 86 := by
  intro n f s t ks fs a1 c1 a2 c2 xs ys p r rb w hok hR1 hV hc1 hR2 hF hc2 hp hrb hr0 hr1
  have HV := Lib.hid hV
  have HR1 := Lib.hid hR1
  have HR2 := Lib.hid hR2
  have HF := Lib.hid hF
  have HP := Lib.hid hp
  have Hrec := Lib.hid hrec
  rw [V.ok] at hok
  obtain ⟨ok1, ok2, ok3, ok4, ok5, ok6, ok7, ok8, ok9⟩ := hok
  have Hok6 := Lib.hid ok6
  have Hok7 := Lib.hid ok7
  clear hV hR1 hR2 hF hp hrec ok6 ok7
  have hts : t.size ≤ 140737488355328 := ok5
  go_enter Tryz.func42, Tryz.ntmps42
  go_wp2_with fail
  have hrbl := hrb.lt
  have hroom0 := hrb.alloc (.cells (vcells 86 n f s t a1 ks.len c1 a2 fs.len c2).toArray 273)
  have hb30 := Blk.new w 273 (vcells 86 n f s t a1 ks.len c1 a2 fs.len c2).toArray
  have hbut0 : But w (w.alloc (.cells (vcells 86 n f s t a1 ks.len c1 a2 fs.len c2).toArray 273)) [rb] := (But.refl w _).alloc _
  have hXr : ¬ (w.heap.size = rb) := by omega
  generalize w.alloc (.cells (vcells 86 n f s t a1 ks.len c1 a2 fs.len c2).toArray 273) = wx at hroom0 hb30 hbut0 ⊢
  have q0 := hroom0.cell0
  have q1 := hroom0.frozen 0
  have g4 : wx.cell? ⟨w.heap.size, 4, none⟩ = some (.string t) := by rw [hb30.cell]; rfl
  go_region
  clear q0 q1 g4
  have hroom1 : Blk (wx.setCell ⟨rb, 0, none⟩ (.int .i64 (r - (1 + t.size)))).drew rb 3 #[.int .i64 (r - (1 + t.size))] := by
    have := (hroom0.set_ 0 (.int .i64 (r - (1 + t.size)))).drew; simpa using this
  have hb31 : Blk (wx.setCell ⟨rb, 0, none⟩ (.int .i64 (r - (1 + t.size)))).drew w.heap.size 273 (vcells 86 n f s t a1 ks.len c1 a2 fs.len c2).toArray := (hb30.far (by simpa using hXr) _).drew
  have hbut1 : But w (wx.setCell ⟨rb, 0, none⟩ (.int .i64 (r - (1 + t.size)))).drew [rb] := (hbut0.setCell (.inl (by simp)) _).drew
  clear hroom0 hb30 hbut0
  generalize (wx.setCell ⟨rb, 0, none⟩ (.int .i64 (r - (1 + t.size)))).drew = wy at hroom1 hb31 hbut1 ⊢
  obtain ⟨r1, hr1e⟩ : ∃ r1, r1 = r - (1 + (t.size : Int)) := ⟨_, rfl⟩
  rw [← hr1e] at hroom1 ⊢
  have Hr1 := Lib.hid hr1e
  have hrb1 : -281474976710657 ≤ r1 ∧ r1 ≤ 2000 := by omega
  obtain ⟨hrb1, hrb2⟩ := hrb1
  clear hr1e
  have q0 := hroom1.cell0
  obtain ⟨g0, g1, g2, g3, g4, g5, g6⟩ : wy.cell? ⟨w.heap.size, 0, none⟩ = some (.int .u8 86) ∧ wy.cell? ⟨w.heap.size, 1, none⟩ = some (.int .i64 n) ∧ wy.cell? ⟨w.heap.size, 2, none⟩ = some (.float .f64 f) ∧ wy.cell? ⟨w.heap.size, 3, none⟩ = some (.int .i64 s) ∧ wy.cell? ⟨w.heap.size, 4, none⟩ = some (.string t) ∧ wy.cell? ⟨w.heap.size, 5, none⟩ = some (.slice a1 ks.len c1) ∧ wy.cell? ⟨w.heap.size, 6, none⟩ = some (.slice a2 fs.len c2) := by
    refine ⟨?_, ?_, ?_, ?_, ?_, ?_, ?_⟩ <;> (rw [hb31.cell]; rfl)
  by_cases hneg : r1 < 0
  · go_wp2
    go_ret
    exact ⟨false, rfl, hbut1, fun h => by cases h⟩
  by_cases hd0 : d = 0
  · subst hd0
    go_wp2
    go_ret
    exact ⟨false, rfl, hbut1, fun h => by cases h⟩
  obtain ⟨e, rfl⟩ : ∃ e, d = e + 1 := ⟨d - 1, by omega⟩
  have hrec2 : ProperT e ∧ ProperV e := by
    rcases Hrec.out with h | h
    · omega
    · simpa using h
  have HTC := Lib.hid hrec2.1
  have HVC := Lib.hid hrec2.2
  clear hrec2 Hrec hd0
  have hdd : ¬ ((e : Int) + 1 = 0) := by omega
  have hm0 := run_makeMap_plain (P := Tryz.prog) wy 302
  have hm1 := put1 wy
  have hm2 := put2 wy
  have hm3 := put3 wy
  have hm4 := put4 wy
  have hm5 := look_bits wy 86
  rw [show bitsOf 86 = 0 by rfl] at hm5
  have k0 := (hb31.alloc (.map es4 4))
  obtain ⟨g0, g1, g2, g3, g4, g5, g6⟩ : (wy.alloc (.map es4 4)).cell? ⟨w.heap.size, 0, none⟩ = some (.int .u8 86) ∧ (wy.alloc (.map es4 4)).cell? ⟨w.heap.size, 1, none⟩ = some (.int .i64 n) ∧ (wy.alloc (.map es4 4)).cell? ⟨w.heap.size, 2, none⟩ = some (.float .f64 f) ∧ (wy.alloc (.map es4 4)).cell? ⟨w.heap.size, 3, none⟩ = some (.int .i64 s) ∧ (wy.alloc (.map es4 4)).cell? ⟨w.heap.size, 4, none⟩ = some (.string t) ∧ (wy.alloc (.map es4 4)).cell? ⟨w.heap.size, 5, none⟩ = some (.slice a1 ks.len c1) ∧ (wy.alloc (.map es4 4)).cell? ⟨w.heap.size, 6, none⟩ = some (.slice a2 fs.len c2) := by
    refine ⟨?_, ?_, ?_, ?_, ?_, ?_, ?_⟩ <;> (rw [k0.cell]; rfl)
  have hroom9 := hroom1.alloc (.map es4 4)
  have hbut9 := hbut1.alloc (.map es4 4)
  have hr10 : ¬ (r1 < 0 ∨ e + 1 = 0) := by omega
  · go_wp2
    go_ret
    exact ⟨true, rfl, hbut9, fun _ => ⟨r1, by rw [V.fit, ← Hr1.out, if_neg hr10]; simp [inBits, bounds]; try omega, hroom9⟩⟩

set_option maxRecDepth 100000 in
set_option maxHeartbeats 8000000 in
theorem pv_116 (d : Nat) (hd : d ≤ 10) (hrec : d = 0 ∨ (ProperT (d - 1) ∧ ProperV (d - 1))) : ProperK d 116 := by
  intro n f s t ks fs a1 c1 a2 c2 xs ys p r rb w hok hR1 hV hc1 hR2 hF hc2 hp hrb hr0 hr1
  have HV := Lib.hid hV
  have HR1 := Lib.hid hR1
  have HR2 := Lib.hid hR2
  have HF := Lib.hid hF
  have HP := Lib.hid hp
  have Hrec := Lib.hid hrec
  rw [V.ok] at hok
  obtain ⟨ok1, ok2, ok3, ok4, ok5, ok6, ok7, ok8, ok9⟩ := hok
  have Hok6 := Lib.hid ok6
  have Hok7 := Lib.hid ok7
  clear hV hR1 hR2 hF hp hrec ok6 ok7
  have hts : t.size ≤ 140737488355328 := ok5
  go_enter Tryz.func42, Tryz.ntmps42
  go_wp2_with fail
  have hrbl := hrb.lt
  have hroom0 := hrb.alloc (.cells (vcells 116 n f s t a1 ks.len c1 a2 fs.len c2).toArray 273)
  have hb30 := Blk.new w 273 (vcells 116 n f s t a1 ks.len c1 a2 fs.len c2).toArray
  have hbut0 : But w (w.alloc (.cells (vcells 116 n f s t a1 ks.len c1 a2 fs.len c2).toArray 273)) [rb] := (But.refl w _).alloc _
  have hXr : ¬ (w.heap.size = rb) := by omega
  generalize w.alloc (.cells (vcells 116 n f s t a1 ks.len c1 a2 fs.len c2).toArray 273) = wx at hroom0 hb30 hbut0 ⊢
  have q0 := hroom0.cell0
  have q1 := hroom0.frozen 0
  have g4 : wx.cell? ⟨w.heap.size, 4, none⟩ = some (.string t) := by rw [hb30.cell]; rfl
  go_region
  clear q0 q1 g4
  have hroom1 : Blk (wx.setCell ⟨rb, 0, none⟩ (.int .i64 (r - (1 + t.size)))).drew rb 3 #[.int .i64 (r - (1 + t.size))] := by
    have := (hroom0.set_ 0 (.int .i64 (r - (1 + t.size)))).drew; simpa using this
  have hb31 : Blk (wx.setCell ⟨rb, 0, none⟩ (.int .i64 (r - (1 + t.size)))).drew w.heap.size 273 (vcells 116 n f s t a1 ks.len c1 a2 fs.len c2).toArray := (hb30.far (by simpa using hXr) _).drew
  have hbut1 : But w (wx.setCell ⟨rb, 0, none⟩ (.int .i64 (r - (1 + t.size)))).drew [rb] := (hbut0.setCell (.inl (by simp)) _).drew
  clear hroom0 hb30 hbut0
  generalize (wx.setCell ⟨rb, 0, none⟩ (.int .i64 (r - (1 + t.size)))).drew = wy at hroom1 hb31 hbut1 ⊢
  obtain ⟨r1, hr1e⟩ : ∃ r1, r1 = r - (1 + (t.size : Int)) := ⟨_, rfl⟩
  rw [← hr1e] at hroom1 ⊢
  have Hr1 := Lib.hid hr1e
  have hrb1 : -281474976710657 ≤ r1 ∧ r1 ≤ 2000 := by omega
  obtain ⟨hrb1, hrb2⟩ := hrb1
  clear hr1e
  have q0 := hroom1.cell0
  obtain ⟨g0, g1, g2, g3, g4, g5, g6⟩ : wy.cell? ⟨w.heap.size, 0, none⟩ = some (.int .u8 116) ∧ wy.cell? ⟨w.heap.size, 1, none⟩ = some (.int .i64 n) ∧ wy.cell? ⟨w.heap.size, 2, none⟩ = some (.float .f64 f) ∧ wy.cell? ⟨w.heap.size, 3, none⟩ = some (.int .i64 s) ∧ wy.cell? ⟨w.heap.size, 4, none⟩ = some (.string t) ∧ wy.cell? ⟨w.heap.size, 5, none⟩ = some (.slice a1 ks.len c1) ∧ wy.cell? ⟨w.heap.size, 6, none⟩ = some (.slice a2 fs.len c2) := by
    refine ⟨?_, ?_, ?_, ?_, ?_, ?_, ?_⟩ <;> (rw [hb31.cell]; rfl)
  by_cases hneg : r1 < 0
  · go_wp2
    go_ret
    exact ⟨false, rfl, hbut1, fun h => by cases h⟩
  by_cases hd0 : d = 0
  · subst hd0
    go_wp2
    go_ret
    exact ⟨false, rfl, hbut1, fun h => by cases h⟩
  obtain ⟨e, rfl⟩ : ∃ e, d = e + 1 := ⟨d - 1, by omega⟩
  have hrec2 : ProperT e ∧ ProperV e := by
    rcases Hrec.out with h | h
    · omega
    · simpa using h
  have HTC := Lib.hid hrec2.1
  have HVC := Lib.hid hrec2.2
  clear hrec2 Hrec hd0
  have hdd : ¬ ((e : Int) + 1 = 0) := by omega
  have hm0 := run_makeMap_plain (P := Tryz.prog) wy 302
  have hm1 := put1 wy
  have hm2 := put2 wy
  have hm3 := put3 wy
  have hm4 := put4 wy
  have hm5 := look_bits wy 116
  rw [show bitsOf 116 = 0 by rfl] at hm5
  have k0 := (hb31.alloc (.map es4 4))
  obtain ⟨g0, g1, g2, g3, g4, g5, g6⟩ : (wy.alloc (.map es4 4)).cell? ⟨w.heap.size, 0, none⟩ = some (.int .u8 116) ∧ (wy.alloc (.map es4 4)).cell? ⟨w.heap.size, 1, none⟩ = some (.int .i64 n) ∧ (wy.alloc (.map es4 4)).cell? ⟨w.heap.size, 2, none⟩ = some (.float .f64 f) ∧ (wy.alloc (.map es4 4)).cell? ⟨w.heap.size, 3, none⟩ = some (.int .i64 s) ∧ (wy.alloc (.map es4 4)).cell? ⟨w.heap.size, 4, none⟩ = some (.string t) ∧ (wy.alloc (.map es4 4)).cell? ⟨w.heap.size, 5, none⟩ = some (.slice a1 ks.len c1) ∧ (wy.alloc (.map es4 4)).cell? ⟨w.heap.size, 6, none⟩ = some (.slice a2 fs.len c2) := by
    refine ⟨?_, ?_, ?_, ?_, ?_, ?_, ?_⟩ <;> (rw [k0.cell]; rfl)
  have hroom9 := hroom1.alloc (.map es4 4)
  have hbut9 := hbut1.alloc (.map es4 4)
  have hr10 : ¬ (r1 < 0 ∨ e + 1 = 0) := by omega
  by_cases h1 : n = 0
  · go_wp2
    go_ret
    exact ⟨true, rfl, hbut9, fun _ => ⟨r1, by rw [V.fit, ← Hr1.out, if_neg hr10]; simp [inBits, bounds]; try omega, hroom9⟩⟩
  by_cases h2 : n = 1
  · go_wp2
    go_ret
    exact ⟨true, rfl, hbut9, fun _ => ⟨r1, by rw [V.fit, ← Hr1.out, if_neg hr10]; simp [inBits, bounds]; try omega, hroom9⟩⟩
  have h1' : (n == 0) = false := by simp [h1]
  have h2' : (n == 1) = false := by simp [h2]
  · go_wp2
    go_ret
    exact ⟨false, rfl, hbut9, fun h => by cases h⟩

set_option maxRecDepth 100000 in
set_option maxHeartbeats 8000000 in
theorem pv_66 (d : Nat) (hd : d ≤ 10) (hrec : d = 0 ∨ (ProperT (d - 1) ∧ ProperV (d - 1))) : ProperK d 66 := by
  intro n f s t ks fs a1 c1 a2 c2 xs ys p r rb w hok hR1 hV hc1 hR2 hF hc2 hp hrb hr0 hr1
  have HV := Lib.hid hV
  have HR1 := Lib.hid hR1
  have HR2 := Lib.hid hR2
  have HF := Lib.hid hF
  have HP := Lib.hid hp
  have Hrec := Lib.hid hrec
  rw [V.ok] at hok
  obtain ⟨ok1, ok2, ok3, ok4, ok5, ok6, ok7, ok8, ok9⟩ := hok
  have Hok6 := Lib.hid ok6
  have Hok7 := Lib.hid ok7
  clear hV hR1 hR2 hF hp hrec ok6 ok7
  have hts : t.size ≤ 140737488355328 := ok5
  go_enter Tryz.func42, Tryz.ntmps42
  go_wp2_with fail
  have hrbl := hrb.lt
  have hroom0 := hrb.alloc (.cells (vcells 66 n f s t a1 ks.len c1 a2 fs.len c2).toArray 273)
  have hb30 := Blk.new w 273 (vcells 66 n f s t a1 ks.len c1 a2 fs.len c2).toArray
  have hbut0 : But w (w.alloc (.cells (vcells 66 n f s t a1 ks.len c1 a2 fs.len c2).toArray 273)) [rb] := (But.refl w _).alloc _
  have hXr : ¬ (w.heap.size = rb) := by omega
  generalize w.alloc (.cells (vcells 66 n f s t a1 ks.len c1 a2 fs.len c2).toArray 273) = wx at hroom0 hb30 hbut0 ⊢
  have q0 := hroom0.cell0
  have q1 := hroom0.frozen 0
  have g4 : wx.cell? ⟨w.heap.size, 4, none⟩ = some (.string t) := by rw [hb30.cell]; rfl
  go_region
  clear q0 q1 g4
  have hroom1 : Blk (wx.setCell ⟨rb, 0, none⟩ (.int .i64 (r - (1 + t.size)))).drew rb 3 #[.int .i64 (r - (1 + t.size))] := by
    have := (hroom0.set_ 0 (.int .i64 (r - (1 + t.size)))).drew; simpa using this
  have hb31 : Blk (wx.setCell ⟨rb, 0, none⟩ (.int .i64 (r - (1 + t.size)))).drew w.heap.size 273 (vcells 66 n f s t a1 ks.len c1 a2 fs.len c2).toArray := (hb30.far (by simpa using hXr) _).drew
  have hbut1 : But w (wx.setCell ⟨rb, 0, none⟩ (.int .i64 (r - (1 + t.size)))).drew [rb] := (hbut0.setCell (.inl (by simp)) _).drew
  clear hroom0 hb30 hbut0
  generalize (wx.setCell ⟨rb, 0, none⟩ (.int .i64 (r - (1 + t.size)))).drew = wy at hroom1 hb31 hbut1 ⊢
  obtain ⟨r1, hr1e⟩ : ∃ r1, r1 = r - (1 + (t.size : Int)) := ⟨_, rfl⟩
  rw [← hr1e] at hroom1 ⊢
  have Hr1 := Lib.hid hr1e
  have hrb1 : -281474976710657 ≤ r1 ∧ r1 ≤ 2000 := by omega
  obtain ⟨hrb1, hrb2⟩ := hrb1
  clear hr1e
  have q0 := hroom1.cell0
  obtain ⟨g0, g1, g2, g3, g4, g5, g6⟩ : wy.cell? ⟨w.heap.size, 0, none⟩ = some (.int .u8 66) ∧ wy.cell? ⟨w.heap.size, 1, none⟩ = some (.int .i64 n) ∧ wy.cell? ⟨w.heap.size, 2, none⟩ = some (.float .f64 f) ∧ wy.cell? ⟨w.heap.size, 3, none⟩ = some (.int .i64 s) ∧ wy.cell? ⟨w.heap.size, 4, none⟩ = some (.string t) ∧ wy.cell? ⟨w.heap.size, 5, none⟩ = some (.slice a1 ks.len c1) ∧ wy.cell? ⟨w.heap.size, 6, none⟩ = some (.slice a2 fs.len c2) := by
    refine ⟨?_, ?_, ?_, ?_, ?_, ?_, ?_⟩ <;> (rw [hb31.cell]; rfl)
  by_cases hneg : r1 < 0
  · go_wp2
    go_ret
    exact ⟨false, rfl, hbut1, fun h => by cases h⟩
  by_cases hd0 : d = 0
  · subst hd0
    go_wp2
    go_ret
    exact ⟨false, rfl, hbut1, fun h => by cases h⟩
  obtain ⟨e, rfl⟩ : ∃ e, d = e + 1 := ⟨d - 1, by omega⟩
  have hrec2 : ProperT e ∧ ProperV e := by
    rcases Hrec.out with h | h
    · omega
    · simpa using h
  have HTC := Lib.hid hrec2.1
  have HVC := Lib.hid hrec2.2
  clear hrec2 Hrec hd0
  have hdd : ¬ ((e : Int) + 1 = 0) := by omega
  have hm0 := run_makeMap_plain (P := Tryz.prog) wy 302
  have hm1 := put1 wy
  have hm2 := put2 wy
  have hm3 := put3 wy
  have hm4 := put4 wy
  have hm5 := look_bits wy 66
  rw [show bitsOf 66 = 0 by rfl] at hm5
  have k0 := (hb31.alloc (.map es4 4))
  obtain ⟨g0, g1, g2, g3, g4, g5, g6⟩ : (wy.alloc (.map es4 4)).cell? ⟨w.heap.size, 0, none⟩ = some (.int .u8 66) ∧ (wy.alloc (.map es4 4)).cell? ⟨w.heap.size, 1, none⟩ = some (.int .i64 n) ∧ (wy.alloc (.map es4 4)).cell? ⟨w.heap.size, 2, none⟩ = some (.float .f64 f) ∧ (wy.alloc (.map es4 4)).cell? ⟨w.heap.size, 3, none⟩ = some (.int .i64 s) ∧ (wy.alloc (.map es4 4)).cell? ⟨w.heap.size, 4, none⟩ = some (.string t) ∧ (wy.alloc (.map es4 4)).cell? ⟨w.heap.size, 5, none⟩ = some (.slice a1 ks.len c1) ∧ (wy.alloc (.map es4 4)).cell? ⟨w.heap.size, 6, none⟩ = some (.slice a2 fs.len c2) := by
    refine ⟨?_, ?_, ?_, ?_, ?_, ?_, ?_⟩ <;> (rw [k0.cell]; rfl)
  have hroom9 := hroom1.alloc (.map es4 4)
  have hbut9 := hbut1.alloc (.map es4 4)
  have hr10 : ¬ (r1 < 0 ∨ e + 1 = 0) := by omega
  by_cases h1 : 0 ≤ n
  · by_cases h2 : n ≤ 255
    · go_wp2
      go_ret
      exact ⟨true, rfl, hbut9, fun _ => ⟨r1, by rw [V.fit, ← Hr1.out, if_neg hr10]; simp [inBits, bounds]; try omega, hroom9⟩⟩
    · go_wp2
      go_ret
      exact ⟨false, rfl, hbut9, fun h => by cases h⟩
  · go_wp2
    go_ret
    exact ⟨false, rfl, hbut9, fun h => by cases h⟩

set_option maxRecDepth 100000 in
set_option maxHeartbeats 8000000 in
theorem pv_84 (d : Nat) (hd : d ≤ 10) (hrec : d = 0 ∨ (ProperT (d - 1) ∧ ProperV (d - 1))) : ProperK d 84 := by
  intro n f s t ks fs a1 c1 a2 c2 xs ys p r rb w hok hR1 hV hc1 hR2 hF hc2 hp hrb hr0 hr1
  have HV := Lib.hid hV
  have HR1 := Lib.hid hR1
  have HR2 := Lib.hid hR2
  have HF := Lib.hid hF
  have HP := Lib.hid hp
  have Hrec := Lib.hid hrec
  rw [V.ok] at hok
  obtain ⟨ok1, ok2, ok3, ok4, ok5, ok6, ok7, ok8, ok9⟩ := hok
  have Hok6 := Lib.hid ok6
  have Hok7 := Lib.hid ok7
  clear hV hR1 hR2 hF hp hrec ok6 ok7
  have hts : t.size ≤ 140737488355328 := ok5
  go_enter Tryz.func42, Tryz.ntmps42
  go_wp2_with fail
  have hrbl := hrb.lt
  have hroom0 := hrb.alloc (.cells (vcells 84 n f s t a1 ks.len c1 a2 fs.len c2).toArray 273)
  have hb30 := Blk.new w 273 (vcells 84 n f s t a1 ks.len c1 a2 fs.len c2).toArray
  have hbut0 : But w (w.alloc (.cells (vcells 84 n f s t a1 ks.len c1 a2 fs.len c2).toArray 273)) [rb] := (But.refl w _).alloc _
  have hXr : ¬ (w.heap.size = rb) := by omega
  generalize w.alloc (.cells (vcells 84 n f s t a1 ks.len c1 a2 fs.len c2).toArray 273) = wx at hroom0 hb30 hbut0 ⊢
  have q0 := hroom0.cell0
  have q1 := hroom0.frozen 0
  have g4 : wx.cell? ⟨w.heap.size, 4, none⟩ = some (.string t) := by rw [hb30.cell]; rfl
  go_region
  clear q0 q1 g4
  have hroom1 : Blk (wx.setCell ⟨rb, 0, none⟩ (.int .i64 (r - (1 + t.size)))).drew rb 3 #[.int .i64 (r - (1 + t.size))] := by
    have := (hroom0.set_ 0 (.int .i64 (r - (1 + t.size)))).drew; simpa using this
  have hb31 : Blk (wx.setCell ⟨rb, 0, none⟩ (.int .i64 (r - (1 + t.size)))).drew w.heap.size 273 (vcells 84 n f s t a1 ks.len c1 a2 fs.len c2).toArray := (hb30.far (by simpa using hXr) _).drew
  have hbut1 : But w (wx.setCell ⟨rb, 0, none⟩ (.int .i64 (r - (1 + t.size)))).drew [rb] := (hbut0.setCell (.inl (by simp)) _).drew
  clear hroom0 hb30 hbut0
  generalize (wx.setCell ⟨rb, 0, none⟩ (.int .i64 (r - (1 + t.size)))).drew = wy at hroom1 hb31 hbut1 ⊢
  obtain ⟨r1, hr1e⟩ : ∃ r1, r1 = r - (1 + (t.size : Int)) := ⟨_, rfl⟩
  rw [← hr1e] at hroom1 ⊢
  have Hr1 := Lib.hid hr1e
  have hrb1 : -281474976710657 ≤ r1 ∧ r1 ≤ 2000 := by omega
  obtain ⟨hrb1, hrb2⟩ := hrb1
  clear hr1e
  have q0 := hroom1.cell0
  obtain ⟨g0, g1, g2, g3, g4, g5, g6⟩ : wy.cell? ⟨w.heap.size, 0, none⟩ = some (.int .u8 84) ∧ wy.cell? ⟨w.heap.size, 1, none⟩ = some (.int .i64 n) ∧ wy.cell? ⟨w.heap.size, 2, none⟩ = some (.float .f64 f) ∧ wy.cell? ⟨w.heap.size, 3, none⟩ = some (.int .i64 s) ∧ wy.cell? ⟨w.heap.size, 4, none⟩ = some (.string t) ∧ wy.cell? ⟨w.heap.size, 5, none⟩ = some (.slice a1 ks.len c1) ∧ wy.cell? ⟨w.heap.size, 6, none⟩ = some (.slice a2 fs.len c2) := by
    refine ⟨?_, ?_, ?_, ?_, ?_, ?_, ?_⟩ <;> (rw [hb31.cell]; rfl)
  by_cases hneg : r1 < 0
  · go_wp2
    go_ret
    exact ⟨false, rfl, hbut1, fun h => by cases h⟩
  by_cases hd0 : d = 0
  · subst hd0
    go_wp2
    go_ret
    exact ⟨false, rfl, hbut1, fun h => by cases h⟩
  obtain ⟨e, rfl⟩ : ∃ e, d = e + 1 := ⟨d - 1, by omega⟩
  have hrec2 : ProperT e ∧ ProperV e := by
    rcases Hrec.out with h | h
    · omega
    · simpa using h
  have HTC := Lib.hid hrec2.1
  have HVC := Lib.hid hrec2.2
  clear hrec2 Hrec hd0
  have hdd : ¬ ((e : Int) + 1 = 0) := by omega
  have hm0 := run_makeMap_plain (P := Tryz.prog) wy 302
  have hm1 := put1 wy
  have hm2 := put2 wy
  have hm3 := put3 wy
  have hm4 := put4 wy
  have hm5 := look_bits wy 84
  rw [show bitsOf 84 = 0 by rfl] at hm5
  have k0 := (hb31.alloc (.map es4 4))
  obtain ⟨g0, g1, g2, g3, g4, g5, g6⟩ : (wy.alloc (.map es4 4)).cell? ⟨w.heap.size, 0, none⟩ = some (.int .u8 84) ∧ (wy.alloc (.map es4 4)).cell? ⟨w.heap.size, 1, none⟩ = some (.int .i64 n) ∧ (wy.alloc (.map es4 4)).cell? ⟨w.heap.size, 2, none⟩ = some (.float .f64 f) ∧ (wy.alloc (.map es4 4)).cell? ⟨w.heap.size, 3, none⟩ = some (.int .i64 s) ∧ (wy.alloc (.map es4 4)).cell? ⟨w.heap.size, 4, none⟩ = some (.string t) ∧ (wy.alloc (.map es4 4)).cell? ⟨w.heap.size, 5, none⟩ = some (.slice a1 ks.len c1) ∧ (wy.alloc (.map es4 4)).cell? ⟨w.heap.size, 6, none⟩ = some (.slice a2 fs.len c2) := by
    refine ⟨?_, ?_, ?_, ?_, ?_, ?_, ?_⟩ <;> (rw [k0.cell]; rfl)
  have hroom9 := hroom1.alloc (.map es4 4)
  have hbut9 := hbut1.alloc (.map es4 4)
  have hr10 : ¬ (r1 < 0 ∨ e + 1 = 0) := by omega
  by_cases h1 : 0 ≤ n
  · by_cases h2 : n < 1099511627776
    · go_wp2
      go_ret
      exact ⟨true, rfl, hbut9, fun _ => ⟨r1, by rw [V.fit, ← Hr1.out, if_neg hr10]; simp [inBits, bounds]; try omega, hroom9⟩⟩
    · go_wp2
      go_ret
      exact ⟨false, rfl, hbut9, fun h => by cases h⟩
  · go_wp2
    go_ret
    exact ⟨false, rfl, hbut9, fun h => by cases h⟩

set_option maxRecDepth 100000 in
set_option maxHeartbeats 8000000 in
theorem pv_68 (d : Nat) (hd : d ≤ 10) (hrec : d = 0 ∨ (ProperT (d - 1) ∧ ProperV (d - 1))) : ProperK d 68 := by
  intro n f s t ks fs a1 c1 a2 c2 xs ys p r rb w hok hR1 hV hc1 hR2 hF hc2 hp hrb hr0 hr1
  have HV := Lib.hid hV
  have HR1 := Lib.hid hR1
  have HR2 := Lib.hid hR2
  have HF := Lib.hid hF
  have HP := Lib.hid hp
  have Hrec := Lib.hid hrec
  rw [V.ok] at hok
  obtain ⟨ok1, ok2, ok3, ok4, ok5, ok6, ok7, ok8, ok9⟩ := hok
  have Hok6 := Lib.hid ok6
  have Hok7 := Lib.hid ok7
  clear hV hR1 hR2 hF hp hrec ok6 ok7
  have hts : t.size ≤ 140737488355328 := ok5
  go_enter Tryz.func42, Tryz.ntmps42
  go_wp2_with fail
  have hrbl := hrb.lt
  have hroom0 := hrb.alloc (.cells (vcells 68 n f s t a1 ks.len c1 a2 fs.len c2).toArray 273)
  have hb30 := Blk.new w 273 (vcells 68 n f s t a1 ks.len c1 a2 fs.len c2).toArray
  have hbut0 : But w (w.alloc (.cells (vcells 68 n f s t a1 ks.len c1 a2 fs.len c2).toArray 273)) [rb] := (But.refl w _).alloc _
  have hXr : ¬ (w.heap.size = rb) := by omega
  generalize w.alloc (.cells (vcells 68 n f s t a1 ks.len c1 a2 fs.len c2).toArray 273) = wx at hroom0 hb30 hbut0 ⊢
  have q0 := hroom0.cell0
  have q1 := hroom0.frozen 0
  have g4 : wx.cell? ⟨w.heap.size, 4, none⟩ = some (.string t) := by rw [hb30.cell]; rfl
  go_region
  clear q0 q1 g4
  have hroom1 : Blk (wx.setCell ⟨rb, 0, none⟩ (.int .i64 (r - (1 + t.size)))).drew rb 3 #[.int .i64 (r - (1 + t.size))] := by
    have := (hroom0.set_ 0 (.int .i64 (r - (1 + t.size)))).drew; simpa using this
  have hb31 : Blk (wx.setCell ⟨rb, 0, none⟩ (.int .i64 (r - (1 + t.size)))).drew w.heap.size 273 (vcells 68 n f s t a1 ks.len c1 a2 fs.len c2).toArray := (hb30.far (by simpa using hXr) _).drew
  have hbut1 : But w (wx.setCell ⟨rb, 0, none⟩ (.int .i64 (r - (1 + t.size)))).drew [rb] := (hbut0.setCell (.inl (by simp)) _).drew
  clear hroom0 hb30 hbut0
  generalize (wx.setCell ⟨rb, 0, none⟩ (.int .i64 (r - (1 + t.size)))).drew = wy at hroom1 hb31 hbut1 ⊢
  obtain ⟨r1, hr1e⟩ : ∃ r1, r1 = r - (1 + (t.size : Int)) := ⟨_, rfl⟩
  rw [← hr1e] at hroom1 ⊢
  have Hr1 := Lib.hid hr1e
  have hrb1 : -281474976710657 ≤ r1 ∧ r1 ≤ 2000 := by omega
  obtain ⟨hrb1, hrb2⟩ := hrb1
  clear hr1e
  have q0 := hroom1.cell0
  obtain ⟨g0, g1, g2, g3, g4, g5, g6⟩ : wy.cell? ⟨w.heap.size, 0, none⟩ = some (.int .u8 68) ∧ wy.cell? ⟨w.heap.size, 1, none⟩ = some (.int .i64 n) ∧ wy.cell? ⟨w.heap.size, 2, none⟩ = some (.float .f64 f) ∧ wy.cell? ⟨w.heap.size, 3, none⟩ = some (.int .i64 s) ∧ wy.cell? ⟨w.heap.size, 4, none⟩ = some (.string t) ∧ wy.cell? ⟨w.heap.size, 5, none⟩ = some (.slice a1 ks.len c1) ∧ wy.cell? ⟨w.heap.size, 6, none⟩ = some (.slice a2 fs.len c2) := by
    refine ⟨?_, ?_, ?_, ?_, ?_, ?_, ?_⟩ <;> (rw [hb31.cell]; rfl)
  by_cases hneg : r1 < 0
  · go_wp2
    go_ret
    exact ⟨false, rfl, hbut1, fun h => by cases h⟩
  by_cases hd0 : d = 0
  · subst hd0
    go_wp2
    go_ret
    exact ⟨false, rfl, hbut1, fun h => by cases h⟩
  obtain ⟨e, rfl⟩ : ∃ e, d = e + 1 := ⟨d - 1, by omega⟩
  have hrec2 : ProperT e ∧ ProperV e := by
    rcases Hrec.out with h | h
    · omega
    · simpa using h
  have HTC := Lib.hid hrec2.1
  have HVC := Lib.hid hrec2.2
  clear hrec2 Hrec hd0
  have hdd : ¬ ((e : Int) + 1 = 0) := by omega
  have hm0 := run_makeMap_plain (P := Tryz.prog) wy 302
  have hm1 := put1 wy
  have hm2 := put2 wy
  have hm3 := put3 wy
  have hm4 := put4 wy
  have hm5 := look_bits wy 68
  rw [show bitsOf 68 = 32 by rfl] at hm5
  have k0 := (hb31.alloc (.map es4 4))
  obtain ⟨g0, g1, g2, g3, g4, g5, g6⟩ : (wy.alloc (.map es4 4)).cell? ⟨w.heap.size, 0, none⟩ = some (.int .u8 68) ∧ (wy.alloc (.map es4 4)).cell? ⟨w.heap.size, 1, none⟩ = some (.int .i64 n) ∧ (wy.alloc (.map es4 4)).cell? ⟨w.heap.size, 2, none⟩ = some (.float .f64 f) ∧ (wy.alloc (.map es4 4)).cell? ⟨w.heap.size, 3, none⟩ = some (.int .i64 s) ∧ (wy.alloc (.map es4 4)).cell? ⟨w.heap.size, 4, none⟩ = some (.string t) ∧ (wy.alloc (.map es4 4)).cell? ⟨w.heap.size, 5, none⟩ = some (.slice a1 ks.len c1) ∧ (wy.alloc (.map es4 4)).cell? ⟨w.heap.size, 6, none⟩ = some (.slice a2 fs.len c2) := by
    refine ⟨?_, ?_, ?_, ?_, ?_, ?_, ?_⟩ <;> (rw [k0.cell]; rfl)
  have hroom9 := hroom1.alloc (.map es4 4)
  have hbut9 := hbut1.alloc (.map es4 4)
  have hr10 : ¬ (r1 < 0 ∨ e + 1 = 0) := by omega
  by_cases h1 : n < -2147483648
  · go_wp2
    go_ret
    exact ⟨false, rfl, hbut9, fun h => by cases h⟩
  by_cases h2 : n > 2147483647
  · go_wp2
    go_ret
    exact ⟨false, rfl, hbut9, fun h => by cases h⟩
  by_cases h3 : 0 ≤ s
  · by_cases h4 : s ≤ 255
    · go_wp2
      go_ret
      exact ⟨true, rfl, hbut9, fun _ => ⟨r1, by rw [V.fit, ← Hr1.out, if_neg hr10]; simp [inBits, bounds]; try omega, hroom9⟩⟩
    · go_wp2
      go_ret
      exact ⟨false, rfl, hbut9, fun h => by cases h⟩
  · go_wp2
    go_ret
    exact ⟨false, rfl, hbut9, fun h => by cases h⟩

end Go.Proofs.YtabeppaehenefaaGreat
