/-
  Properness of arrays and tables as values, and of letters that are none.
-/
import Derived.Test.YtabeppaehenefaaGreatPk
import Derived.Deep.DeepCutAuto
namespace Go.Proofs.YtabeppaehenefaaGreat
open Go.RowKit
attribute [local go_sem ↓] Go.wp_at_zero Go.wp_at_succ

set_option maxRecDepth 100000 in
set_option maxHeartbeats 8000000 in
theorem pv_70 (d : Nat) (hd : d ≤ 10) (hrec : d = 0 ∨ (ProperT (d - 1) ∧ ProperV (d - 1))) : ProperK d 70 := by
  intro n f s t ks fs a1 c1 a2 c2 xs ys p r rb w hok hR1 hV hc1 hR2 hF hc2 hp hrb hr0 hr1
  have HV := Lib.hid hV
  have HR1 := Lib.hid hR1
  have HR2 := Lib.hid hR2
  have HF := Lib.hid hF
  have HP := Lib.hid hp
  have Hrec := Lib.hid hrec
  rw [V.ok] at hok
  obtain ⟨ok1, ok2, ok3, ok4, ok5, ok6, ok7, ok8, ok9⟩ := hok
  have Hok6 := Lib.hid ok6
  have Hok7 := Lib.hid ok7
  clear hV hR1 hR2 hF hp hrec ok6 ok7
  have hts : t.size ≤ 140737488355328 := ok5
  go_enter Tryz.func42, Tryz.ntmps42
  go_wp2_with fail
  have hrbl := hrb.lt
  have hroom0 := hrb.alloc (.cells (vcells 70 n f s t a1 ks.len c1 a2 fs.len c2).toArray 273)
  have hb30 := Blk.new w 273 (vcells 70 n f s t a1 ks.len c1 a2 fs.len c2).toArray
  have hbut0 : But w (w.alloc (.cells (vcells 70 n f s t a1 ks.len c1 a2 fs.len c2).toArray 273)) [rb] := (But.refl w _).alloc _
  have hXr : ¬ (w.heap.size = rb) := by omega
  generalize w.alloc (.cells (vcells 70 n f s t a1 ks.len c1 a2 fs.len c2).toArray 273) = wx at hroom0 hb30 hbut0 ⊢
  have q0 := hroom0.cell0
  have q1 := hroom0.frozen 0
  have g4 : wx.cell? ⟨w.heap.size, 4, none⟩ = some (.string t) := by rw [hb30.cell]; rfl
  go_region
  clear q0 q1 g4
  have hroom1 : Blk (wx.setCell ⟨rb, 0, none⟩ (.int .i64 (r - (1 + t.size)))).drew rb 3 #[.int .i64 (r - (1 + t.size))] := by
    have := (hroom0.set_ 0 (.int .i64 (r - (1 + t.size)))).drew; simpa using this
  have hb31 : Blk (wx.setCell ⟨rb, 0, none⟩ (.int .i64 (r - (1 + t.size)))).drew w.heap.size 273 (vcells 70 n f s t a1 ks.len c1 a2 fs.len c2).toArray := (hb30.far (by simpa using hXr) _).drew
  have hbut1 : But w (wx.setCell ⟨rb, 0, none⟩ (.int .i64 (r - (1 + t.size)))).drew [rb] := (hbut0.setCell (.inl (by simp)) _).drew
  clear hroom0 hb30 hbut0
  generalize (wx.setCell ⟨rb, 0, none⟩ (.int .i64 (r - (1 + t.size)))).drew = wy at hroom1 hb31 hbut1 ⊢
  obtain ⟨r1, hr1e⟩ : ∃ r1, r1 = r - (1 + (t.size : Int)) := ⟨_, rfl⟩
  rw [← hr1e] at hroom1 ⊢
  have Hr1 := Lib.hid hr1e
  have hrb1 : -281474976710657 ≤ r1 ∧ r1 ≤ 2000 := by omega
  obtain ⟨hrb1, hrb2⟩ := hrb1
  clear hr1e
  have q0 := hroom1.cell0
  obtain ⟨g0, g1, g2, g3, g4, g5, g6⟩ : wy.cell? ⟨w.heap.size, 0, none⟩ = some (.int .u8 70) ∧ wy.cell? ⟨w.heap.size, 1, none⟩ = some (.int .i64 n) ∧ wy.cell? ⟨w.heap.size, 2, none⟩ = some (.float .f64 f) ∧ wy.cell? ⟨w.heap.size, 3, none⟩ = some (.int .i64 s) ∧ wy.cell? ⟨w.heap.size, 4, none⟩ = some (.string t) ∧ wy.cell? ⟨w.heap.size, 5, none⟩ = some (.slice a1 ks.len c1) ∧ wy.cell? ⟨w.heap.size, 6, none⟩ = some (.slice a2 fs.len c2) := by
    refine ⟨?_, ?_, ?_, ?_, ?_, ?_, ?_⟩ <;> (rw [hb31.cell]; rfl)
  by_cases hneg : r1 < 0
  · go_wp2
    go_ret
    exact ⟨false, rfl, hbut1, fun h => by cases h⟩
  by_cases hd0 : d = 0
  · subst hd0
    go_wp2
    go_ret
    exact ⟨false, rfl, hbut1, fun h => by cases h⟩
  obtain ⟨e, rfl⟩ : ∃ e, d = e + 1 := ⟨d - 1, by omega⟩
  have hrec2 : ProperT e ∧ ProperV e := by
    rcases Hrec.out with h | h
    · omega
    · simpa using h
  have HTC := Lib.hid hrec2.1
  have HVC := Lib.hid hrec2.2
  clear hrec2 Hrec hd0
  have hdd : ¬ ((e : Int) + 1 = 0) := by omega
  have hm0 := run_makeMap_plain (P := Tryz.prog) wy 302
  have hm1 := put1 wy
  have hm2 := put2 wy
  have hm3 := put3 wy
  have hm4 := put4 wy
  have hm5 := look_bits wy 70
  rw [show bitsOf 70 = 0 by rfl] at hm5
  have k0 := (hb31.alloc (.map es4 4))
  obtain ⟨g0, g1, g2, g3, g4, g5, g6⟩ : (wy.alloc (.map es4 4)).cell? ⟨w.heap.size, 0, none⟩ = some (.int .u8 70) ∧ (wy.alloc (.map es4 4)).cell? ⟨w.heap.size, 1, none⟩ = some (.int .i64 n) ∧ (wy.alloc (.map es4 4)).cell? ⟨w.heap.size, 2, none⟩ = some (.float .f64 f) ∧ (wy.alloc (.map es4 4)).cell? ⟨w.heap.size, 3, none⟩ = some (.int .i64 s) ∧ (wy.alloc (.map es4 4)).cell? ⟨w.heap.size, 4, none⟩ = some (.string t) ∧ (wy.alloc (.map es4 4)).cell? ⟨w.heap.size, 5, none⟩ = some (.slice a1 ks.len c1) ∧ (wy.alloc (.map es4 4)).cell? ⟨w.heap.size, 6, none⟩ = some (.slice a2 fs.len c2) := by
    refine ⟨?_, ?_, ?_, ?_, ?_, ?_, ?_⟩ <;> (rw [k0.cell]; rfl)
  have hroom9 := hroom1.alloc (.map es4 4)
  have hbut9 := hbut1.alloc (.map es4 4)
  have hr10 : ¬ (r1 < 0 ∨ e + 1 = 0) := by omega
  have hk9 : ∀ g, p g → (wy.alloc (.map es4 4)).heap[g]? = w.heap[g]? := fun g hg => hbut9.block g (HP.out g hg).1 (by simpa using (HP.out g hg).2)
  have hp9 : ∀ g, p g → g < (wy.alloc (.map es4 4)).heap.size ∧ g ≠ rb := fun g hg => ⟨by have := (HP.out g hg).1; have := hbut9.size; omega, (HP.out g hg).2⟩
  have hwe := wrap_nat e (by omega)
  have hcall := HTC.out fs a2 c2 ys p r1 rb (wy.alloc (.map es4 4)) Hok7.out ok9 (HR2.out.keep hk9) (HF.out.keep hk9) hc2 hp9 hroom9 (by omega) hrb2
  have HCall := Lib.hid hcall
  clear hcall hk9 hp9
  go_wp2_with fail
  refine HCall.out.mono ?_
  rintro e' w2 ⟨bb, rfl, hbut3, hfit⟩
  have Hfit := Lib.hid hfit
  clear hfit
  go_wp2
  go_ret
  refine ⟨bb, rfl, hbut9.trans hbut3, fun h => ?_⟩
  obtain ⟨r', h1, h2⟩ := Hfit.out h
  exact ⟨r', by rw [V.fit, ← Hr1.out, if_neg hr10]; simpa [inBits, bounds] using h1, h2⟩

set_option maxRecDepth 100000 in
set_option maxHeartbeats 8000000 in
theorem pv_65 (d : Nat) (hd : d ≤ 10) (hrec : d = 0 ∨ (ProperT (d - 1) ∧ ProperV (d - 1))) : ProperK d 65 := by
  intro n f s t ks fs a1 c1 a2 c2 xs ys p r rb w hok hR1 hV hc1 hR2 hF hc2 hp hrb hr0 hr1
  have HV := Lib.hid hV
  have HR1 := Lib.hid hR1
  have HR2 := Lib.hid hR2
  have HF := Lib.hid hF
  have HP := Lib.hid hp
  have Hrec := Lib.hid hrec
  rw [V.ok] at hok
  obtain ⟨ok1, ok2, ok3, ok4, ok5, ok6, ok7, ok8, ok9⟩ := hok
  have Hok6 := Lib.hid ok6
  have Hok7 := Lib.hid ok7
  clear hV hR1 hR2 hF hp hrec ok6 ok7
  have hts : t.size ≤ 140737488355328 := ok5
  go_enter Tryz.func42, Tryz.ntmps42
  go_wp2_with fail
  have hrbl := hrb.lt
  have hroom0 := hrb.alloc (.cells (vcells 65 n f s t a1 ks.len c1 a2 fs.len c2).toArray 273)
  have hb30 := Blk.new w 273 (vcells 65 n f s t a1 ks.len c1 a2 fs.len c2).toArray
  have hbut0 : But w (w.alloc (.cells (vcells 65 n f s t a1 ks.len c1 a2 fs.len c2).toArray 273)) [rb] := (But.refl w _).alloc _
  have hXr : ¬ (w.heap.size = rb) := by omega
  generalize w.alloc (.cells (vcells 65 n f s t a1 ks.len c1 a2 fs.len c2).toArray 273) = wx at hroom0 hb30 hbut0 ⊢
  have q0 := hroom0.cell0
  have q1 := hroom0.frozen 0
  have g4 : wx.cell? ⟨w.heap.size, 4, none⟩ = some (.string t) := by rw [hb30.cell]; rfl
  go_region
  clear q0 q1 g4
  have hroom1 : Blk (wx.setCell ⟨rb, 0, none⟩ (.int .i64 (r - (1 + t.size)))).drew rb 3 #[.int .i64 (r - (1 + t.size))] := by
    have := (hroom0.set_ 0 (.int .i64 (r - (1 + t.size)))).drew; simpa using this
  have hb31 : Blk (wx.setCell ⟨rb, 0, none⟩ (.int .i64 (r - (1 + t.size)))).drew w.heap.size 273 (vcells 65 n f s t a1 ks.len c1 a2 fs.len c2).toArray := (hb30.far (by simpa using hXr) _).drew
  have hbut1 : But w (wx.setCell ⟨rb, 0, none⟩ (.int .i64 (r - (1 + t.size)))).drew [rb] := (hbut0.setCell (.inl (by simp)) _).drew
  clear hroom0 hb30 hbut0
  generalize (wx.setCell ⟨rb, 0, none⟩ (.int .i64 (r - (1 + t.size)))).drew = wy at hroom1 hb31 hbut1 ⊢
  obtain ⟨r1, hr1e⟩ : ∃ r1, r1 = r - (1 + (t.size : Int)) := ⟨_, rfl⟩
  rw [← hr1e] at hroom1 ⊢
  have Hr1 := Lib.hid hr1e
  have hrb1 : -281474976710657 ≤ r1 ∧ r1 ≤ 2000 := by omega
  obtain ⟨hrb1, hrb2⟩ := hrb1
  clear hr1e
  have q0 := hroom1.cell0
  obtain ⟨g0, g1, g2, g3, g4, g5, g6⟩ : wy.cell? ⟨w.heap.size, 0, none⟩ = some (.int .u8 65) ∧ wy.cell? ⟨w.heap.size, 1, none⟩ = some (.int .i64 n) ∧ wy.cell? ⟨w.heap.size, 2, none⟩ = some (.float .f64 f) ∧ wy.cell? ⟨w.heap.size, 3, none⟩ = some (.int .i64 s) ∧ wy.cell? ⟨w.heap.size, 4, none⟩ = some (.string t) ∧ wy.cell? ⟨w.heap.size, 5, none⟩ = some (.slice a1 ks.len c1) ∧ wy.cell? ⟨w.heap.size, 6, none⟩ = some (.slice a2 fs.len c2) := by
    refine ⟨?_, ?_, ?_, ?_, ?_, ?_, ?_⟩ <;> (rw [hb31.cell]; rfl)
  by_cases hneg : r1 < 0
  · go_wp2
    go_ret
    exact ⟨false, rfl, hbut1, fun h => by cases h⟩
  by_cases hd0 : d = 0
  · subst hd0
    go_wp2
    go_ret
    exact ⟨false, rfl, hbut1, fun h => by cases h⟩
  obtain ⟨e, rfl⟩ : ∃ e, d = e + 1 := ⟨d - 1, by omega⟩
  have hrec2 : ProperT e ∧ ProperV e := by
    rcases Hrec.out with h | h
    · omega
    · simpa using h
  have HTC := Lib.hid hrec2.1
  have HVC := Lib.hid hrec2.2
  clear hrec2 Hrec hd0
  have hdd : ¬ ((e : Int) + 1 = 0) := by omega
  have hm0 := run_makeMap_plain (P := Tryz.prog) wy 302
  have hm1 := put1 wy
  have hm2 := put2 wy
  have hm3 := put3 wy
  have hm4 := put4 wy
  have hm5 := look_bits wy 65
  rw [show bitsOf 65 = 0 by rfl] at hm5
  have k0 := (hb31.alloc (.map es4 4))
  obtain ⟨g0, g1, g2, g3, g4, g5, g6⟩ : (wy.alloc (.map es4 4)).cell? ⟨w.heap.size, 0, none⟩ = some (.int .u8 65) ∧ (wy.alloc (.map es4 4)).cell? ⟨w.heap.size, 1, none⟩ = some (.int .i64 n) ∧ (wy.alloc (.map es4 4)).cell? ⟨w.heap.size, 2, none⟩ = some (.float .f64 f) ∧ (wy.alloc (.map es4 4)).cell? ⟨w.heap.size, 3, none⟩ = some (.int .i64 s) ∧ (wy.alloc (.map es4 4)).cell? ⟨w.heap.size, 4, none⟩ = some (.string t) ∧ (wy.alloc (.map es4 4)).cell? ⟨w.heap.size, 5, none⟩ = some (.slice a1 ks.len c1) ∧ (wy.alloc (.map es4 4)).cell? ⟨w.heap.size, 6, none⟩ = some (.slice a2 fs.len c2) := by
    refine ⟨?_, ?_, ?_, ?_, ?_, ?_, ?_⟩ <;> (rw [k0.cell]; rfl)
  have hroom9 := hroom1.alloc (.map es4 4)
  have hbut9 := hbut1.alloc (.map es4 4)
  have hr10 : ¬ (r1 < 0 ∨ e + 1 = 0) := by omega
  have hk9 : ∀ g, p g → (wy.alloc (.map es4 4)).heap[g]? = w.heap[g]? := fun g hg => hbut9.block g (HP.out g hg).1 (by simpa using (HP.out g hg).2)
  have hp9 : ∀ g, p g → g < (wy.alloc (.map es4 4)).heap.size ∧ g ≠ rb := fun g hg => ⟨by have := (HP.out g hg).1; have := hbut9.size; omega, (HP.out g hg).2⟩
  have hwe := wrap_nat e (by omega)
  have HK9 := Lib.hid hk9
  have HP9 := Lib.hid hp9
  have hsz9 := hbut9.size
  clear hk9 hp9
  go_wp2_with fail
  go_loopw [131] (fun i wr => ∃ (j : Nat) (rest : Vs) (ρ : Int), i = .int .i64 j ∧ rest.len + j = ks.len ∧ rest.ok ∧ 0 ≤ ρ ∧ ρ ≤ 2000 ∧ rest.fit e ρ = ks.fit e r1 ∧ VsC w p rest (xs.drop (j * 7)) ∧ Blk wr rb 3 #[.int .i64 ρ] ∧ But w wr [rb]) (fun i _ => ks.len - (intOf i).toNat)
  case atStart => exact ⟨0, ks, r1, rfl, rfl, Hok6.out, by omega, hrb2, rfl, by simpa using HV.out, hroom9, hbut9⟩
  case round =>
    obtain ⟨j, rest, ρ, rfl, hrest, hrok, hρ0, hρ1, hjoin, hrV, hroom, hbut⟩ := hrel
    have HJ := Lib.hid hjoin
    clear hjoin g0 g1 g2 g3 g4 g5 g6 hm0 hm1 hm2 hm3 hm4 hm5 q0
    cases rest with
    | nil =>
      rw [Vs.len] at hrest
      have hjk : j = ks.len := by omega
      clear hrest
      subst hjk
      go_wp2
      go_ret
      refine ⟨true, rfl, hbut, fun _ => ⟨ρ, ?_, hroom⟩⟩
      rw [V.fit, ← Hr1.out, if_neg hr10]
      have := HJ.out
      rw [Vs.fit] at this
      simpa [inBits, bounds] using this.symm
    | cons v q =>
      obtain ⟨vk, vn, vf, vs, vt, vks, vfs⟩ := v
      rw [Vs.len] at hrest
      obtain ⟨b, off, a1', c1', a2', c2', xs', zs', rfl, hpb, e0, e1, e2, e3, e4, e5, e6, x1, x2, x3, x4, x5, x6, x7⟩ := VsC.at_ HR1.out hrV
      have hkeepr : ∀ g, p g → wr.heap[g]? = w.heap[g]? := fun g hg => hbut.block g (HP.out g hg).1 (by simpa using (HP.out g hg).2)
      have hb' := hkeepr b hpb
      rw [← World.cell?_of_block (w := w) (w' := wr) (a := ⟨b, off + j * 7, none⟩) hb'] at e0
      rw [← World.cell?_of_block (w := w) (w' := wr) (a := ⟨b, off + j * 7 + 1, none⟩) hb'] at e1
      rw [← World.cell?_of_block (w := w) (w' := wr) (a := ⟨b, off + j * 7 + 2, none⟩) hb'] at e2
      rw [← World.cell?_of_block (w := w) (w' := wr) (a := ⟨b, off + j * 7 + 3, none⟩) hb'] at e3
      rw [← World.cell?_of_block (w := w) (w' := wr) (a := ⟨b, off + j * 7 + 4, none⟩) hb'] at e4
      rw [← World.cell?_of_block (w := w) (w' := wr) (a := ⟨b, off + j * 7 + 5, none⟩) hb'] at e5
      rw [← World.cell?_of_block (w := w) (w' := wr) (a := ⟨b, off + j * 7 + 6, none⟩) hb'] at e6
      have hk0 : (0 : Int) ≤ (j : Int) := by omega
      have hk1 : (j : Int) < (ks.len : Int) := by omega
      rw [Vs.ok] at hrok
      obtain ⟨o2, o3⟩ := hrok
      go_upto_region 23 with fail
      have hroom1' := hroom.alloc (.cells (vcells vk vn vf vs vt a1' vks.len c1' a2' vfs.len c2').toArray 273)
      have hx1 := Blk.new wr 273 (vcells vk vn vf vs vt a1' vks.len c1' a2' vfs.len c2').toArray
      have hbut1' := hbut.alloc (.cells (vcells vk vn vf vs vt a1' vks.len c1' a2' vfs.len c2').toArray 273)
      clear e0 e1 e2 e3 e4 e5 e6 hb'
      generalize wr.alloc (.cells (vcells vk vn vf vs vt a1' vks.len c1' a2' vfs.len c2').toArray 273) = wX at hroom1' hx1 hbut1' ⊢
      have u0 : wX.cell? ⟨wr.heap.size, 0, none⟩ = some (.int .u8 vk) := by rw [hx1.cell]; rfl
      have u1 : wX.cell? ⟨wr.heap.size, 1, none⟩ = some (.int .i64 vn) := by rw [hx1.cell]; rfl
      have u2 : wX.cell? ⟨wr.heap.size, 2, none⟩ = some (.float .f64 vf) := by rw [hx1.cell]; rfl
      have u3 : wX.cell? ⟨wr.heap.size, 3, none⟩ = some (.int .i64 vs) := by rw [hx1.cell]; rfl
      have u4 : wX.cell? ⟨wr.heap.size, 4, none⟩ = some (.string vt) := by rw [hx1.cell]; rfl
      have u5 : wX.cell? ⟨wr.heap.size, 5, none⟩ = some (.slice a1' vks.len c1') := by rw [hx1.cell]; rfl
      have u6 : wX.cell? ⟨wr.heap.size, 6, none⟩ = some (.slice a2' vfs.len c2') := by rw [hx1.cell]; rfl
      have hkX : ∀ g, p g → wX.heap[g]? = w.heap[g]? := fun g hg => hbut1'.block g (HP.out g hg).1 (by simpa using (HP.out g hg).2)
      have hcall := HVC.out vk vn vf vs vt vks vfs a1' c1' a2' c2' xs' zs' p ρ rb wX o2 (x1.keep hkX) (x2.keep hkX) x3 (x4.keep hkX) (x5.keep hkX) x6
        (fun g hg => ⟨by have := (HP.out g hg).1; have := hbut1'.size; omega, (HP.out g hg).2⟩) hroom1' hρ0 hρ1
      have HCall := Lib.hid hcall
      clear hcall hkX hkeepr x1 x2 x4 x5
      go_wp2_with fail
      refine HCall.out.mono ?_
      rintro e' w2 ⟨bb, rfl, hbut3, hfit⟩
      have Hfit := Lib.hid hfit
      clear hfit
      cases bb with
      | false =>
        go_wp2
        go_ret
        exact ⟨false, rfl, hbut1'.trans hbut3, fun h => by cases h⟩
      | true =>
        obtain ⟨ρ1, hf1, hroom3⟩ := Hfit.out rfl
        have hfd := V.fit_dec _ _ _ _ hf1
        have hj2 : q.fit e ρ1 = ks.fit e r1 := by rw [← HJ.out, Vs.fit, hf1]
        have Hj2 := Lib.hid hj2
        clear hj2 hf1
        go_wp2
        refine ⟨⟨j + 1, q, ρ1, by go_num, by omega, o3, hfd.1, by omega, Hj2.out, ?_, hroom3, hbut1'.trans hbut3⟩, by simp [intOf]; omega⟩
        rw [show (j + 1) * 7 = j * 7 + 7 by omega]
        exact x7

set_option maxRecDepth 100000 in
set_option maxHeartbeats 8000000 in
theorem pv_none (k : Int) (hk : k ≠ 116 ∧ k ≠ 98 ∧ k ≠ 66 ∧ k ≠ 115 ∧ k ≠ 73 ∧ k ≠ 108 ∧ k ≠ 84 ∧ k ≠ 102 ∧ k ≠ 100 ∧ k ≠ 68 ∧ k ≠ 83 ∧ k ≠ 120 ∧ k ≠ 65 ∧ k ≠ 70 ∧ k ≠ 86) (d : Nat) (hd : d ≤ 10) (hrec : d = 0 ∨ (ProperT (d - 1) ∧ ProperV (d - 1))) : ProperK d k := by
  obtain ⟨k1, k2, k3, k4, k5, k6, k7, k8, k9, k10, k11, k12, k13, k14, k15⟩ := hk
  intro n f s t ks fs a1 c1 a2 c2 xs ys p r rb w hok hR1 hV hc1 hR2 hF hc2 hp hrb hr0 hr1
  have HV := Lib.hid hV
  have HR1 := Lib.hid hR1
  have HR2 := Lib.hid hR2
  have HF := Lib.hid hF
  have HP := Lib.hid hp
  have Hrec := Lib.hid hrec
  rw [V.ok] at hok
  obtain ⟨ok1, ok2, ok3, ok4, ok5, ok6, ok7, ok8, ok9⟩ := hok
  have Hok6 := Lib.hid ok6
  have Hok7 := Lib.hid ok7
  clear hV hR1 hR2 hF hp hrec ok6 ok7
  have hts : t.size ≤ 140737488355328 := ok5
  go_enter Tryz.func42, Tryz.ntmps42
  go_wp2_with fail
  have hrbl := hrb.lt
  have hroom0 := hrb.alloc (.cells (vcells k n f s t a1 ks.len c1 a2 fs.len c2).toArray 273)
  have hb30 := Blk.new w 273 (vcells k n f s t a1 ks.len c1 a2 fs.len c2).toArray
  have hbut0 : But w (w.alloc (.cells (vcells k n f s t a1 ks.len c1 a2 fs.len c2).toArray 273)) [rb] := (But.refl w _).alloc _
  have hXr : ¬ (w.heap.size = rb) := by omega
  generalize w.alloc (.cells (vcells k n f s t a1 ks.len c1 a2 fs.len c2).toArray 273) = wx at hroom0 hb30 hbut0 ⊢
  have q0 := hroom0.cell0
  have q1 := hroom0.frozen 0
  have g4 : wx.cell? ⟨w.heap.size, 4, none⟩ = some (.string t) := by rw [hb30.cell]; rfl
  go_region
  clear q0 q1 g4
  have hroom1 : Blk (wx.setCell ⟨rb, 0, none⟩ (.int .i64 (r - (1 + t.size)))).drew rb 3 #[.int .i64 (r - (1 + t.size))] := by
    have := (hroom0.set_ 0 (.int .i64 (r - (1 + t.size)))).drew; simpa using this
  have hb31 : Blk (wx.setCell ⟨rb, 0, none⟩ (.int .i64 (r - (1 + t.size)))).drew w.heap.size 273 (vcells k n f s t a1 ks.len c1 a2 fs.len c2).toArray := (hb30.far (by simpa using hXr) _).drew
  have hbut1 : But w (wx.setCell ⟨rb, 0, none⟩ (.int .i64 (r - (1 + t.size)))).drew [rb] := (hbut0.setCell (.inl (by simp)) _).drew
  clear hroom0 hb30 hbut0
  generalize (wx.setCell ⟨rb, 0, none⟩ (.int .i64 (r - (1 + t.size)))).drew = wy at hroom1 hb31 hbut1 ⊢
  obtain ⟨r1, hr1e⟩ : ∃ r1, r1 = r - (1 + (t.size : Int)) := ⟨_, rfl⟩
  rw [← hr1e] at hroom1 ⊢
  have Hr1 := Lib.hid hr1e
  have hrb1 : -281474976710657 ≤ r1 ∧ r1 ≤ 2000 := by omega
  obtain ⟨hrb1, hrb2⟩ := hrb1
  clear hr1e
  have q0 := hroom1.cell0
  obtain ⟨g0, g1, g2, g3, g4, g5, g6⟩ : wy.cell? ⟨w.heap.size, 0, none⟩ = some (.int .u8 k) ∧ wy.cell? ⟨w.heap.size, 1, none⟩ = some (.int .i64 n) ∧ wy.cell? ⟨w.heap.size, 2, none⟩ = some (.float .f64 f) ∧ wy.cell? ⟨w.heap.size, 3, none⟩ = some (.int .i64 s) ∧ wy.cell? ⟨w.heap.size, 4, none⟩ = some (.string t) ∧ wy.cell? ⟨w.heap.size, 5, none⟩ = some (.slice a1 ks.len c1) ∧ wy.cell? ⟨w.heap.size, 6, none⟩ = some (.slice a2 fs.len c2) := by
    refine ⟨?_, ?_, ?_, ?_, ?_, ?_, ?_⟩ <;> (rw [hb31.cell]; rfl)
  by_cases hneg : r1 < 0
  · go_wp2
    go_ret
    exact ⟨false, rfl, hbut1, fun h => by cases h⟩
  by_cases hd0 : d = 0
  · subst hd0
    go_wp2
    go_ret
    exact ⟨false, rfl, hbut1, fun h => by cases h⟩
  obtain ⟨e, rfl⟩ : ∃ e, d = e + 1 := ⟨d - 1, by omega⟩
  have hrec2 : ProperT e ∧ ProperV e := by
    rcases Hrec.out with h | h
    · omega
    · simpa using h
  have HTC := Lib.hid hrec2.1
  have HVC := Lib.hid hrec2.2
  clear hrec2 Hrec hd0
  have hdd : ¬ ((e : Int) + 1 = 0) := by omega
  have hm0 := run_makeMap_plain (P := Tryz.prog) wy 302
  have hm1 := put1 wy
  have hm2 := put2 wy
  have hm3 := put3 wy
  have hm4 := put4 wy
  have hm5 := look_bits wy k
  rw [show bitsOf k = 0 by simp [bitsOf, k2, k4, k5, k10]] at hm5
  have k0 := (hb31.alloc (.map es4 4))
  obtain ⟨g0, g1, g2, g3, g4, g5, g6⟩ : (wy.alloc (.map es4 4)).cell? ⟨w.heap.size, 0, none⟩ = some (.int .u8 k) ∧ (wy.alloc (.map es4 4)).cell? ⟨w.heap.size, 1, none⟩ = some (.int .i64 n) ∧ (wy.alloc (.map es4 4)).cell? ⟨w.heap.size, 2, none⟩ = some (.float .f64 f) ∧ (wy.alloc (.map es4 4)).cell? ⟨w.heap.size, 3, none⟩ = some (.int .i64 s) ∧ (wy.alloc (.map es4 4)).cell? ⟨w.heap.size, 4, none⟩ = some (.string t) ∧ (wy.alloc (.map es4 4)).cell? ⟨w.heap.size, 5, none⟩ = some (.slice a1 ks.len c1) ∧ (wy.alloc (.map es4 4)).cell? ⟨w.heap.size, 6, none⟩ = some (.slice a2 fs.len c2) := by
    refine ⟨?_, ?_, ?_, ?_, ?_, ?_, ?_⟩ <;> (rw [k0.cell]; rfl)
  have hroom9 := hroom1.alloc (.map es4 4)
  have hbut9 := hbut1.alloc (.map es4 4)
  have hr10 : ¬ (r1 < 0 ∨ e + 1 = 0) := by omega
  · go_wp2
    go_ret
    exact ⟨false, rfl, hbut9, fun h => by cases h⟩

end Go.Proofs.YtabeppaehenefaaGreat
