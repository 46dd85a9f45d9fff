/-
  Properness of floating point values.
-/
import Derived.Test.YtabeppaehenefaaGreatPk
namespace Go.Proofs.YtabeppaehenefaaGreat
open Go.RowKit
attribute [local go_sem ↓] Go.wp_at_zero Go.wp_at_succ

theorem drewN0 (w : World) : w.drewN 0 = w := rfl

theorem choose_any (q : Question) (w : World) : ∃ m j, (choose q).run Tryz.prog w = .ok m (w.drewN j) := by
  rw [run_choose_drew]
  split
  · exact ⟨_, 0, rfl⟩
  · exact ⟨_, 1, rfl⟩

theorem fl_any1 (op : BinOp) (hop : op = .mul ∨ op = .quo) (x y : Nat) (w : World) : ∃ m j, (binOp op 89 (.float .f64 x) (.float .f64 y)).run Tryz.prog w = .ok (.float .f64 m) (w.drewN j) := by
  have hb : binOp op 89 (.float .f64 x) (.float .f64 y) = Op.floatArith op .f64 x y := by rcases hop with rfl | rfl <;> rfl
  rw [hb]
  rcases hop with rfl | rfl
  · cases h : FloatKind.f64.format.mul x y with
    | none =>
      by_cases hq : (Question.nanBits .f64 x y).forced = true
      · exact ⟨0, 0, by simp [Op.floatArith, h, Result.andThen, hq, drewN0]⟩
      · exact ⟨(Question.nanBits .f64 x y).cut (w.tape w.drawn (Question.nanBits .f64 x y)), 1, by simp [Op.floatArith, h, Result.andThen, hq]; rfl⟩
    | some r => exact ⟨r, 0, by simp [Op.floatArith, h, drewN0]⟩
  · cases h : FloatKind.f64.format.div x y with
    | none =>
      by_cases hq : (Question.nanBits .f64 x y).forced = true
      · exact ⟨0, 0, by simp [Op.floatArith, h, Result.andThen, hq, drewN0]⟩
      · exact ⟨(Question.nanBits .f64 x y).cut (w.tape w.drawn (Question.nanBits .f64 x y)), 1, by simp [Op.floatArith, h, Result.andThen, hq]; rfl⟩
    | some r => exact ⟨r, 0, by simp [Op.floatArith, h, drewN0]⟩

theorem cv_any1 (x : Nat) (w : World) : ∃ m j, (convert 89 2 (.float .f64 x)).run Tryz.prog w = .ok (.int .i64 m) (w.drewN j) := by
  have hb : (convert 89 2 (.float .f64 x)).run Tryz.prog w = (Conv.floatToInt .f64 x .i64).run Tryz.prog w := by kernel_rfl
  rw [hb]
  have hch : ∃ m j, (do pure (.int .i64 (IntKind.i64.wrap (← choose (.floatToInt .f64 x .i64)))) : Sem Value).run Tryz.prog w = .ok (.int .i64 m) (w.drewN j) := by
    by_cases hq : (Question.floatToInt .f64 x .i64).forced = true
    · exact ⟨IntKind.i64.wrap ((0 : Nat) : Int), 0, by simp [Result.andThen, hq, drewN0]⟩
    · exact ⟨IntKind.i64.wrap ((Question.floatToInt .f64 x .i64).cut (w.tape w.drawn (Question.floatToInt .f64 x .i64)) : Nat), 1, by simp [Result.andThen, hq]; rfl⟩
  unfold Conv.floatToInt
  split
  · split
    · exact ⟨_, 0, rfl⟩
    · exact hch
  · exact hch

theorem fl_any (op : BinOp) (hop : op = .mul ∨ op = .quo) : ∃ m j : Nat → Nat → World → Nat, ∀ x y w, (binOp op 89 (.float .f64 x) (.float .f64 y)).run Tryz.prog w = .ok (.float .f64 (m x y w)) (w.drewN (j x y w)) :=
  ⟨fun x y w => (fl_any1 op hop x y w).choose, fun x y w => (fl_any1 op hop x y w).choose_spec.choose, fun x y w => (fl_any1 op hop x y w).choose_spec.choose_spec⟩
theorem cv_any : ∃ (m : Nat → World → Int) (j : Nat → World → Nat), ∀ x w, (convert 89 2 (.float .f64 x)).run Tryz.prog w = .ok (.int .i64 (m x w)) (w.drewN (j x w)) :=
  ⟨fun x w => (cv_any1 x w).choose, fun x w => (cv_any1 x w).choose_spec.choose, fun x w => (cv_any1 x w).choose_spec.choose_spec⟩

set_option maxRecDepth 100000 in
set_option maxHeartbeats 8000000 in
theorem pv_100 (d : Nat) (hd : d ≤ 10) (hrec : d = 0 ∨ (ProperT (d - 1) ∧ ProperV (d - 1))) : ProperK d 100 := by
  intro n f s t ks fs a1 c1 a2 c2 xs ys p r rb w hok hR1 hV hc1 hR2 hF hc2 hp hrb hr0 hr1
  have HV := Lib.hid hV
  have HR1 := Lib.hid hR1
  have HR2 := Lib.hid hR2
  have HF := Lib.hid hF
  have HP := Lib.hid hp
  have Hrec := Lib.hid hrec
  rw [V.ok] at hok
  obtain ⟨ok1, ok2, ok3, ok4, ok5, ok6, ok7, ok8, ok9⟩ := hok
  have Hok6 := Lib.hid ok6
  have Hok7 := Lib.hid ok7
  clear hV hR1 hR2 hF hp hrec ok6 ok7
  have hts : t.size ≤ 140737488355328 := ok5
  go_enter Tryz.func42, Tryz.ntmps42
  go_wp2_with fail
  have hrbl := hrb.lt
  have hroom0 := hrb.alloc (.cells (vcells 100 n f s t a1 ks.len c1 a2 fs.len c2).toArray 273)
  have hb30 := Blk.new w 273 (vcells 100 n f s t a1 ks.len c1 a2 fs.len c2).toArray
  have hbut0 : But w (w.alloc (.cells (vcells 100 n f s t a1 ks.len c1 a2 fs.len c2).toArray 273)) [rb] := (But.refl w _).alloc _
  have hXr : ¬ (w.heap.size = rb) := by omega
  generalize w.alloc (.cells (vcells 100 n f s t a1 ks.len c1 a2 fs.len c2).toArray 273) = wx at hroom0 hb30 hbut0 ⊢
  have q0 := hroom0.cell0
  have q1 := hroom0.frozen 0
  have g4 : wx.cell? ⟨w.heap.size, 4, none⟩ = some (.string t) := by rw [hb30.cell]; rfl
  go_region
  clear q0 q1 g4
  have hroom1 : Blk (wx.setCell ⟨rb, 0, none⟩ (.int .i64 (r - (1 + t.size)))).drew rb 3 #[.int .i64 (r - (1 + t.size))] := by
    have := (hroom0.set_ 0 (.int .i64 (r - (1 + t.size)))).drew; simpa using this
  have hb31 : Blk (wx.setCell ⟨rb, 0, none⟩ (.int .i64 (r - (1 + t.size)))).drew w.heap.size 273 (vcells 100 n f s t a1 ks.len c1 a2 fs.len c2).toArray := (hb30.far (by simpa using hXr) _).drew
  have hbut1 : But w (wx.setCell ⟨rb, 0, none⟩ (.int .i64 (r - (1 + t.size)))).drew [rb] := (hbut0.setCell (.inl (by simp)) _).drew
  clear hroom0 hb30 hbut0
  generalize (wx.setCell ⟨rb, 0, none⟩ (.int .i64 (r - (1 + t.size)))).drew = wy at hroom1 hb31 hbut1 ⊢
  obtain ⟨r1, hr1e⟩ : ∃ r1, r1 = r - (1 + (t.size : Int)) := ⟨_, rfl⟩
  rw [← hr1e] at hroom1 ⊢
  have Hr1 := Lib.hid hr1e
  have hrb1 : -281474976710657 ≤ r1 ∧ r1 ≤ 2000 := by omega
  obtain ⟨hrb1, hrb2⟩ := hrb1
  clear hr1e
  have q0 := hroom1.cell0
  obtain ⟨g0, g1, g2, g3, g4, g5, g6⟩ : wy.cell? ⟨w.heap.size, 0, none⟩ = some (.int .u8 100) ∧ wy.cell? ⟨w.heap.size, 1, none⟩ = some (.int .i64 n) ∧ wy.cell? ⟨w.heap.size, 2, none⟩ = some (.float .f64 f) ∧ wy.cell? ⟨w.heap.size, 3, none⟩ = some (.int .i64 s) ∧ wy.cell? ⟨w.heap.size, 4, none⟩ = some (.string t) ∧ wy.cell? ⟨w.heap.size, 5, none⟩ = some (.slice a1 ks.len c1) ∧ wy.cell? ⟨w.heap.size, 6, none⟩ = some (.slice a2 fs.len c2) := by
    refine ⟨?_, ?_, ?_, ?_, ?_, ?_, ?_⟩ <;> (rw [hb31.cell]; rfl)
  by_cases hneg : r1 < 0
  · go_wp2
    go_ret
    exact ⟨false, rfl, hbut1, fun h => by cases h⟩
  by_cases hd0 : d = 0
  · subst hd0
    go_wp2
    go_ret
    exact ⟨false, rfl, hbut1, fun h => by cases h⟩
  obtain ⟨e, rfl⟩ : ∃ e, d = e + 1 := ⟨d - 1, by omega⟩
  have hrec2 : ProperT e ∧ ProperV e := by
    rcases Hrec.out with h | h
    · omega
    · simpa using h
  have HTC := Lib.hid hrec2.1
  have HVC := Lib.hid hrec2.2
  clear hrec2 Hrec hd0
  have hdd : ¬ ((e : Int) + 1 = 0) := by omega
  have hm0 := run_makeMap_plain (P := Tryz.prog) wy 302
  have hm1 := put1 wy
  have hm2 := put2 wy
  have hm3 := put3 wy
  have hm4 := put4 wy
  have hm5 := look_bits wy 100
  rw [show bitsOf 100 = 0 by rfl] at hm5
  have k0 := (hb31.alloc (.map es4 4))
  obtain ⟨g0, g1, g2, g3, g4, g5, g6⟩ : (wy.alloc (.map es4 4)).cell? ⟨w.heap.size, 0, none⟩ = some (.int .u8 100) ∧ (wy.alloc (.map es4 4)).cell? ⟨w.heap.size, 1, none⟩ = some (.int .i64 n) ∧ (wy.alloc (.map es4 4)).cell? ⟨w.heap.size, 2, none⟩ = some (.float .f64 f) ∧ (wy.alloc (.map es4 4)).cell? ⟨w.heap.size, 3, none⟩ = some (.int .i64 s) ∧ (wy.alloc (.map es4 4)).cell? ⟨w.heap.size, 4, none⟩ = some (.string t) ∧ (wy.alloc (.map es4 4)).cell? ⟨w.heap.size, 5, none⟩ = some (.slice a1 ks.len c1) ∧ (wy.alloc (.map es4 4)).cell? ⟨w.heap.size, 6, none⟩ = some (.slice a2 fs.len c2) := by
    refine ⟨?_, ?_, ?_, ?_, ?_, ?_, ?_⟩ <;> (rw [k0.cell]; rfl)
  have hroom9 := hroom1.alloc (.map es4 4)
  have hbut9 := hbut1.alloc (.map es4 4)
  have hr10 : ¬ (r1 < 0 ∨ e + 1 = 0) := by omega
  by_cases h1 : Go.FloatKind.f64.format.order f 13920209183539462144 = some .gt
  · by_cases h2 : Go.FloatKind.f64.format.order f 4696837146684686336 = some .lt
    · have hfit : (V.mk 100 n f s t ks fs).fit (e + 1) r = some r1 := by rw [V.fit, ← Hr1.out, if_neg hr10]; simp [inBits, bounds, frange, h1, h2]
      have Hfit := Lib.hid hfit
      clear hfit
      obtain ⟨mm, mj, hmul⟩ := fl_any .mul (.inl rfl)
      obtain ⟨qm, qj, hquo⟩ := fl_any .quo (.inr rfl)
      obtain ⟨cm, cj, hcv⟩ := cv_any
      go_wp2_with fail
      all_goals
        go_ret
        exact ⟨_, rfl, ⟨hbut9.os, hbut9.tape, hbut9.output, hbut9.size, hbut9.block⟩, fun _ => ⟨r1, Hfit.out, hroom9⟩⟩
    · go_wp2
      go_ret
      exact ⟨false, rfl, hbut9, fun h => by cases h⟩
  · go_wp2
    go_ret
    exact ⟨false, rfl, hbut9, fun h => by cases h⟩

set_option maxRecDepth 100000 in
set_option maxHeartbeats 8000000 in
theorem pv_102 (d : Nat) (hd : d ≤ 10) (hrec : d = 0 ∨ (ProperT (d - 1) ∧ ProperV (d - 1))) : ProperK d 102 := by
  intro n f s t ks fs a1 c1 a2 c2 xs ys p r rb w hok hR1 hV hc1 hR2 hF hc2 hp hrb hr0 hr1
  have HV := Lib.hid hV
  have HR1 := Lib.hid hR1
  have HR2 := Lib.hid hR2
  have HF := Lib.hid hF
  have HP := Lib.hid hp
  have Hrec := Lib.hid hrec
  rw [V.ok] at hok
  obtain ⟨ok1, ok2, ok3, ok4, ok5, ok6, ok7, ok8, ok9⟩ := hok
  have Hok6 := Lib.hid ok6
  have Hok7 := Lib.hid ok7
  clear hV hR1 hR2 hF hp hrec ok6 ok7
  have hts : t.size ≤ 140737488355328 := ok5
  go_enter Tryz.func42, Tryz.ntmps42
  go_wp2_with fail
  have hrbl := hrb.lt
  have hroom0 := hrb.alloc (.cells (vcells 102 n f s t a1 ks.len c1 a2 fs.len c2).toArray 273)
  have hb30 := Blk.new w 273 (vcells 102 n f s t a1 ks.len c1 a2 fs.len c2).toArray
  have hbut0 : But w (w.alloc (.cells (vcells 102 n f s t a1 ks.len c1 a2 fs.len c2).toArray 273)) [rb] := (But.refl w _).alloc _
  have hXr : ¬ (w.heap.size = rb) := by omega
  generalize w.alloc (.cells (vcells 102 n f s t a1 ks.len c1 a2 fs.len c2).toArray 273) = wx at hroom0 hb30 hbut0 ⊢
  have q0 := hroom0.cell0
  have q1 := hroom0.frozen 0
  have g4 : wx.cell? ⟨w.heap.size, 4, none⟩ = some (.string t) := by rw [hb30.cell]; rfl
  go_region
  clear q0 q1 g4
  have hroom1 : Blk (wx.setCell ⟨rb, 0, none⟩ (.int .i64 (r - (1 + t.size)))).drew rb 3 #[.int .i64 (r - (1 + t.size))] := by
    have := (hroom0.set_ 0 (.int .i64 (r - (1 + t.size)))).drew; simpa using this
  have hb31 : Blk (wx.setCell ⟨rb, 0, none⟩ (.int .i64 (r - (1 + t.size)))).drew w.heap.size 273 (vcells 102 n f s t a1 ks.len c1 a2 fs.len c2).toArray := (hb30.far (by simpa using hXr) _).drew
  have hbut1 : But w (wx.setCell ⟨rb, 0, none⟩ (.int .i64 (r - (1 + t.size)))).drew [rb] := (hbut0.setCell (.inl (by simp)) _).drew
  clear hroom0 hb30 hbut0
  generalize (wx.setCell ⟨rb, 0, none⟩ (.int .i64 (r - (1 + t.size)))).drew = wy at hroom1 hb31 hbut1 ⊢
  obtain ⟨r1, hr1e⟩ : ∃ r1, r1 = r - (1 + (t.size : Int)) := ⟨_, rfl⟩
  rw [← hr1e] at hroom1 ⊢
  have Hr1 := Lib.hid hr1e
  have hrb1 : -281474976710657 ≤ r1 ∧ r1 ≤ 2000 := by omega
  obtain ⟨hrb1, hrb2⟩ := hrb1
  clear hr1e
  have q0 := hroom1.cell0
  obtain ⟨g0, g1, g2, g3, g4, g5, g6⟩ : wy.cell? ⟨w.heap.size, 0, none⟩ = some (.int .u8 102) ∧ wy.cell? ⟨w.heap.size, 1, none⟩ = some (.int .i64 n) ∧ wy.cell? ⟨w.heap.size, 2, none⟩ = some (.float .f64 f) ∧ wy.cell? ⟨w.heap.size, 3, none⟩ = some (.int .i64 s) ∧ wy.cell? ⟨w.heap.size, 4, none⟩ = some (.string t) ∧ wy.cell? ⟨w.heap.size, 5, none⟩ = some (.slice a1 ks.len c1) ∧ wy.cell? ⟨w.heap.size, 6, none⟩ = some (.slice a2 fs.len c2) := by
    refine ⟨?_, ?_, ?_, ?_, ?_, ?_, ?_⟩ <;> (rw [hb31.cell]; rfl)
  by_cases hneg : r1 < 0
  · go_wp2
    go_ret
    exact ⟨false, rfl, hbut1, fun h => by cases h⟩
  by_cases hd0 : d = 0
  · subst hd0
    go_wp2
    go_ret
    exact ⟨false, rfl, hbut1, fun h => by cases h⟩
  obtain ⟨e, rfl⟩ : ∃ e, d = e + 1 := ⟨d - 1, by omega⟩
  have hrec2 : ProperT e ∧ ProperV e := by
    rcases Hrec.out with h | h
    · omega
    · simpa using h
  have HTC := Lib.hid hrec2.1
  have HVC := Lib.hid hrec2.2
  clear hrec2 Hrec hd0
  have hdd : ¬ ((e : Int) + 1 = 0) := by omega
  have hm0 := run_makeMap_plain (P := Tryz.prog) wy 302
  have hm1 := put1 wy
  have hm2 := put2 wy
  have hm3 := put3 wy
  have hm4 := put4 wy
  have hm5 := look_bits wy 102
  rw [show bitsOf 102 = 0 by rfl] at hm5
  have k0 := (hb31.alloc (.map es4 4))
  obtain ⟨g0, g1, g2, g3, g4, g5, g6⟩ : (wy.alloc (.map es4 4)).cell? ⟨w.heap.size, 0, none⟩ = some (.int .u8 102) ∧ (wy.alloc (.map es4 4)).cell? ⟨w.heap.size, 1, none⟩ = some (.int .i64 n) ∧ (wy.alloc (.map es4 4)).cell? ⟨w.heap.size, 2, none⟩ = some (.float .f64 f) ∧ (wy.alloc (.map es4 4)).cell? ⟨w.heap.size, 3, none⟩ = some (.int .i64 s) ∧ (wy.alloc (.map es4 4)).cell? ⟨w.heap.size, 4, none⟩ = some (.string t) ∧ (wy.alloc (.map es4 4)).cell? ⟨w.heap.size, 5, none⟩ = some (.slice a1 ks.len c1) ∧ (wy.alloc (.map es4 4)).cell? ⟨w.heap.size, 6, none⟩ = some (.slice a2 fs.len c2) := by
    refine ⟨?_, ?_, ?_, ?_, ?_, ?_, ?_⟩ <;> (rw [k0.cell]; rfl)
  have hroom9 := hroom1.alloc (.map es4 4)
  have hbut9 := hbut1.alloc (.map es4 4)
  have hr10 : ¬ (r1 < 0 ∨ e + 1 = 0) := by omega
  by_cases h1 : Go.FloatKind.f64.format.order f 13920209183539462144 = some .gt
  · by_cases h2 : Go.FloatKind.f64.format.order f 4696837146684686336 = some .lt
    · have hfit : (V.mk 102 n f s t ks fs).fit (e + 1) r = some r1 := by rw [V.fit, ← Hr1.out, if_neg hr10]; simp [inBits, bounds, frange, h1, h2]
      have Hfit := Lib.hid hfit
      clear hfit
      obtain ⟨mm, mj, hmul⟩ := fl_any .mul (.inl rfl)
      obtain ⟨qm, qj, hquo⟩ := fl_any .quo (.inr rfl)
      obtain ⟨cm, cj, hcv⟩ := cv_any
      go_wp2_with fail
      all_goals
        go_ret
        exact ⟨_, rfl, ⟨hbut9.os, hbut9.tape, hbut9.output, hbut9.size, hbut9.block⟩, fun _ => ⟨r1, Hfit.out, hroom9⟩⟩
    · go_wp2
      go_ret
      exact ⟨false, rfl, hbut9, fun h => by cases h⟩
  · go_wp2
    go_ret
    exact ⟨false, rfl, hbut9, fun h => by cases h⟩

end Go.Proofs.YtabeppaehenefaaGreat
