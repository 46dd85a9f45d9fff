/-
  FnMethod: the walk of the statement's function.
-/
import Derived.Test.YtabeppaehenefaaGreatQd
import Derived.Test.YtabeppaehenefaaGreatMg
namespace Go.Proofs.YtabeppaehenefaaGreat
open Go.RowKit
attribute [local go_sem ↓] Go.wp_at_zero Go.wp_at_succ

set_option maxRecDepth 100000 in
set_option maxHeartbeats 8000000 in
/-- FnMethod -/
theorem FnMethod_any {A : Option Addr} {c : Nat} {xs : List Value} {p : Nat → Prop} {w : World} (ch cl me : Int) (gs : List Ag) (hok : ∀ a ∈ gs, a.ok) (hR : Rd w p A xs) (hA : AgsC w p gs xs) (hc : gs.length ≤ c) (hp : ∀ g, p g → g < w.heap.size) :
    Calls Tryz.prog 3 #[.int .i64 ch, .agg #[.int .i64 cl, .int .i64 me, .slice A gs.length c]] w fun e w' => e = .returned (.bool true) ∧ Below w.heap.size w w' := by
  have HR := Lib.hid hR
  have HA := Lib.hid hA
  have Hok := Lib.hid hok
  have HP := Lib.hid hp
  have hb0 := Blk.new w 24 #[.int .i64 cl, .int .i64 me, .slice A gs.length c]
  have hbel0 : Below w.heap.size w (w.alloc (.cells #[.int .i64 cl, .int .i64 me, .slice A gs.length c] 24)) := (Below.refl _ _).alloc (Nat.le_refl _) _
  have HF := Lib.hid (zzFits1_any cl me A gs.length c (w.alloc (.cells #[.int .i64 cl, .int .i64 me, .slice A gs.length c] 24)))
  clear hR hA hok hp
  go_enter Tryz.func3, Tryz.ntmps3
  go_wp2_with fail
  refine HF.out.mono ?_
  rintro e w1 ⟨rfl, rfl⟩
  have hb1 := hb0.alloc (.cells #[.int .i64 cl, .int .i64 me, .slice A gs.length c] 24)
  have hbel1 := hbel0.alloc (by simp) (.cells #[.int .i64 cl, .int .i64 me, .slice A gs.length c] 24)
  generalize (w.alloc (.cells #[.int .i64 cl, .int .i64 me, .slice A gs.length c] 24)).alloc (.cells #[.int .i64 cl, .int .i64 me, .slice A gs.length c] 24) = w1 at hb1 hbel1 ⊢
  clear hb0 hbel0 HF
  have HB1 := Lib.hid hb1
  have HBel1 := Lib.hid hbel1
  have hsz1 := hbel1.size
  clear hb1 hbel1
  by_cases hbig : gs.length ≤ 2147483647
  · have hd : decide (gs.length ≤ 2147483647) = true := by simp [hbig]
    rw [hd]
    have a0 : w1.cell? ⟨w.heap.size, 0, none⟩ = some (.int .i64 cl) := by rw [HB1.out.cell]; rfl
    have a1 : w1.cell? ⟨w.heap.size, 1, none⟩ = some (.int .i64 me) := by rw [HB1.out.cell]; rfl
    have a2 : w1.cell? ⟨w.heap.size, 2, none⟩ = some (.slice A gs.length c) := by rw [HB1.out.cell]; rfl
    have hk1 : ∀ g, p g → w1.heap[g]? = w.heap[g]? := fun g hg => HBel1.out.block g (HP.out g hg)
    have HM := Lib.hid (method_any cl me gs A c xs p w1 Hok.out hbig (HR.out.keep hk1) (HA.out.keep hk1) hc (fun g hg => by have := HP.out g hg; omega))
    clear hd hk1
    go_wp2_with fail
    refine HM.out.mono ?_
    rintro e w2 ⟨A', c', ys, rfl, hc', hR2, hA2, hb2⟩
    clear HM a0 a1 a2
    have HR2 := Lib.hid hR2
    have HA2 := Lib.hid hA2
    have HB2 := Lib.hid (HBel1.out.trans (hb2.mono hsz1))
    have HBk2 := Lib.hid (HB1.out.below hb2 HB1.out.lt)
    have hs2 := hb2.size
    clear hR2 hA2 hb2
    have hb3 := Blk.new w2 28 #[.int .i64 cl, .int .i64 me, .slice A' gs.length c']
    have HBk3 := Lib.hid (HBk2.out.alloc (.cells #[.int .i64 cl, .int .i64 me, .slice A' gs.length c'] 28))
    have HB3 := Lib.hid (HB2.out.alloc HB2.out.size (.cells #[.int .i64 cl, .int .i64 me, .slice A' gs.length c'] 28))
    have hk3 : ∀ g, New w1 w2 g → (w2.alloc (.cells #[.int .i64 cl, .int .i64 me, .slice A' gs.length c'] 28)).heap[g]? = w2.heap[g]? := fun g hg => Below.heap_alloc _ _ _ hg.2
    have HR3 := Lib.hid (HR2.out.keep hk3)
    have HA3 := Lib.hid (HA2.out.keep hk3)
    have HL := Lib.hid (show (gs.map Ag.cut).length = gs.length by simp)
    have hcok : ∀ a ∈ gs.map Ag.cut, a.ok := fun a ha => by
      obtain ⟨x, hx, rfl⟩ := List.mem_map.1 ha
      exact Ag.cut_ok (Hok.out x hx)
    have HCok := Lib.hid hcok
    clear hcok
    have hpm := ProperMethod_any cl me (gs.map Ag.cut) A' c' ys (New w1 w2) (w2.alloc (.cells #[.int .i64 cl, .int .i64 me, .slice A' gs.length c'] 28)) HCok.out (by rw [HL.out]; exact hbig) HR3.out HA3.out (fun g hg => by have := hg.2; simp; omega)
    rw [HL.out] at hpm
    have HPm := Lib.hid hpm
    have a0 : (w2.alloc (.cells #[.int .i64 cl, .int .i64 me, .slice A' gs.length c'] 28)).cell? ⟨w2.heap.size, 0, none⟩ = some (.int .i64 cl) := by rw [hb3.cell]; rfl
    have a1 : (w2.alloc (.cells #[.int .i64 cl, .int .i64 me, .slice A' gs.length c'] 28)).cell? ⟨w2.heap.size, 1, none⟩ = some (.int .i64 me) := by rw [hb3.cell]; rfl
    have a2 : (w2.alloc (.cells #[.int .i64 cl, .int .i64 me, .slice A' gs.length c'] 28)).cell? ⟨w2.heap.size, 2, none⟩ = some (.slice A' gs.length c') := by rw [hb3.cell]; rfl
    have HBl3 := Lib.hid hb3
    have hs3 : (w2.alloc (.cells #[.int .i64 cl, .int .i64 me, .slice A' gs.length c'] 28)).heap.size = w2.heap.size + 1 := by simp
    clear hb3 hk3 hpm HR2 HA2 HB2 HBk2
    by_cases h0 : ch < 0
    · clear a0 a1 a2 hs3
      go_wp2_with fail
      refine (works_any _).mono ?_
      rintro e w4 ⟨rfl, hb4⟩
      have HB4 := Lib.hid (HB3.out.trans (hb4.mono HB3.out.size))
      clear hb4
      go_wp2
      go_ret
      exact ⟨rfl, HB4.out⟩
    by_cases h1 : 65535 < ch
    · clear a0 a1 a2 hs3
      go_wp2_with fail
      refine (works_any _).mono ?_
      rintro e w4 ⟨rfl, hb4⟩
      have HB4 := Lib.hid (HB3.out.trans (hb4.mono HB3.out.size))
      clear hb4
      go_wp2
      go_ret
      exact ⟨rfl, HB4.out⟩
    go_wp2_with fail
    refine HPm.out.mono ?_
    rintro e w4 ⟨b, rfl, hb4, himp⟩
    clear a0 a1 a2
    have HB4 := Lib.hid (HB3.out.trans (hb4.mono HB3.out.size))
    have HBk4 := Lib.hid (HBk3.out.below hb4 HBk3.out.lt)
    have HBl4 := Lib.hid (HBl3.out.below hb4 HBl3.out.lt)
    have hs4 := hb4.size
    have hk4 : ∀ g, New w1 w2 g → w4.heap[g]? = (w2.alloc (.cells #[.int .i64 cl, .int .i64 me, .slice A' gs.length c'] 28)).heap[g]? := fun g hg => hb4.block g (by have := hg.2; omega)
    have HR4 := Lib.hid (HR3.out.keep hk4)
    have HA4 := Lib.hid (HA3.out.keep hk4)
    clear hb4 hk4 HBk3 HBl3 HR3 HA3 HPm
    cases b
    · clear himp
      go_wp2_with fail
      refine (works_any _).mono ?_
      rintro e w5 ⟨rfl, hb5⟩
      have HB5 := Lib.hid (HB4.out.trans (hb5.mono HB4.out.size))
      clear hb5
      go_wp2
      go_ret
      exact ⟨rfl, HB5.out⟩
    obtain ⟨ls, hls, hpl⟩ := himp rfl
    obtain ⟨r0, r1, r2, r3⟩ := letters_range hls
    obtain ⟨hpF, hgood, hbytes⟩ := proper_cut ls gs hpl Hok.out
    obtain ⟨ch, rfl⟩ := Int.eq_ofNat_of_zero_le (show 0 ≤ ch by omega)
    obtain ⟨cl, rfl⟩ := Int.eq_ofNat_of_zero_le r0
    obtain ⟨me, rfl⟩ := Int.eq_ofNat_of_zero_le r2
    have hoki : ∀ a ∈ gs, a.ok ∧ a.fs.good none := fun a ha => ⟨Hok.out a ha, hgood a ha⟩
    have hlen := argsB_len ls gs 0 0 hpF
    have hnine := letters_nine hls
    have hk5 : ∀ g, p g → w4.heap[g]? = w.heap[g]? := fun g hg => HB4.out.block g (HP.out g hg)
    have HFM := Lib.hid (FormatMethod_any (A := A) (c := c) (xs := xs) (p := p) (w := w4) (ys := argsB ls gs 0 0) ch cl me gs (by omega) (by omega) (by omega) hoki hbig (HR.out.keep hk5) (HA.out.keep hk5) (fun g hg => by have := HP.out g hg; have := HB4.out.size; omega) (by omega)
      (fun H w' sv cs q x1 x2 x3 => ZZMethod_any hls hpF hoki x1 x2 x3))
    have HLs := Lib.hid hls
    have HPl := Lib.hid hpl
    have HBy := Lib.hid hbytes
    have HLen := Lib.hid hlen
    have hl9 : (argsB ls gs 0 0).length ≤ 180100 := by omega
    have HL9 := Lib.hid hl9
    have a0 : w4.cell? ⟨w.heap.size, 0, none⟩ = some (.int .i64 cl) := by rw [HBk4.out.cell]; rfl
    have a1 : w4.cell? ⟨w.heap.size, 1, none⟩ = some (.int .i64 me) := by rw [HBk4.out.cell]; rfl
    have a2 : w4.cell? ⟨w.heap.size, 2, none⟩ = some (.slice A gs.length c) := by rw [HBk4.out.cell]; rfl
    clear himp hls hpl hpF hgood hbytes hoki hlen hnine hk5 hl9 h0
    go_wp2_with fail
    refine HFM.out.mono ?_
    rintro e w5 ⟨sv, rfl, ho5, hb5⟩
    clear a0 a1 a2 HFM
    have hmb : methB cl me ls (gs.map Ag.cut) = be cl 2 ++ (be me 2 ++ argsB ls gs 0 0) := by
      unfold methB
      rw [HBy.out 0 0]
      rfl
    have hpl : (be cl 2 ++ (be me 2 ++ argsB ls gs 0 0)).length ≤ 500000 := by
      have := HL9.out
      simp [be_len]
      omega
    generalize be cl 2 ++ (be me 2 ++ argsB ls gs 0 0) = PL at ho5 hmb hpl
    have HMe := Lib.hid hmb
    have HPLen := Lib.hid hpl
    have HB5 := Lib.hid (HB4.out.trans (hb5.mono HB4.out.size))
    have HS5 := Lib.hid (HBl4.out.below hb5 HBl4.out.lt).drew
    have HCV : _ := Lib.hid (fun (wz : World) (hz : Below w5.drew.heap.size w5.drew wz) => conv_own27 (ho5.drew.belowAll hz))
    have HW5 := Lib.hid (Below.refl w5.drew.heap.size w5.drew)
    have hs5 := hb5.size
    have hk5 : ∀ g, New w1 w2 g → w5.drew.heap[g]? = w4.heap[g]? := fun g hg => hb5.block g (by have := hg.2; omega)
    have hmbc := MethodBytes_any cl me ls (gs.map Ag.cut) A' c' ys (New w1 w2) w5.drew HLs.out HPl.out HCok.out (by rw [HL.out]; exact hbig) (HR4.out.keep hk5) (HA4.out.keep hk5) (fun g hg => by have := hg.2; show g < w5.heap.size; omega)
    rw [HL.out] at hmbc
    have HMB := Lib.hid hmbc
    obtain ⟨A5, c5, hsv5⟩ := own_shape ho5
    subst hsv5
    have Hs5 := Lib.hid hs5
    clear hmb hpl hk5 hmbc ho5 hb5 hs5
    go_upto_region 7 with fail
    refine wp_region_held_drew (S := fun wz => Blk wz w2.heap.size 28 #[.int .i64 cl, .int .i64 me, .slice A' gs.length c']) (by kernel_rfl) HS5.out (fun hHeld => ?_)
    refine wpAnyH_take (i := 0) (oi := ⟨_, _, _, _, _, _⟩) (v := ?_) rfl (by kernel_rfl) (by kernel_rfl) (by kernel_rfl) (fun _ _ _ h => h) (Or.inl ⟨by rfl, ?_⟩) hHeld ?_
    rotate_left
    · (intro w' hSw; go_simp; (try with_reducible rfl))
    try simp only [Act.put, List.setIfInBounds_toArray, List.set_cons_zero, List.set_cons_succ]
    refine wpAnyH_take (i := 1) (oi := ⟨_, _, _, _, _, _⟩) (v := ?_) rfl (by kernel_rfl) (by kernel_rfl) (by kernel_rfl) (fun _ _ _ h => h) (Or.inl ⟨by rfl, ?_⟩) hHeld ?_
    rotate_left
    · (intro w' hSw; go_simp; (try with_reducible rfl))
    try simp only [Act.put, List.setIfInBounds_toArray, List.set_cons_zero, List.set_cons_succ]
    refine wpAnyH_take (i := 2) (oi := ⟨_, _, _, _, _, _⟩) (v := ?_) rfl (by kernel_rfl) (by kernel_rfl) (by kernel_rfl) (fun _ _ _ h => h) (Or.inl ⟨by rfl, ?_⟩) hHeld ?_
    rotate_left
    · (intro w' hSw; go_simp; (try with_reducible rfl))
    try simp only [Act.put, List.setIfInBounds_toArray, List.set_cons_zero, List.set_cons_succ]
    refine wpAnyH_take (i := 4) (oi := ⟨_, _, _, _, _, _⟩) (v := ?_) rfl (by kernel_rfl) (by kernel_rfl) (by kernel_rfl) (fun _ _ _ h => h) (Or.inl ⟨by rfl, ?_⟩) hHeld ?_
    rotate_left
    · (intro w' hSw; go_simp; (try with_reducible rfl))
    try simp only [Act.put, List.setIfInBounds_toArray, List.set_cons_zero, List.set_cons_succ]
    refine wpAnyH_take (i := 5) (oi := ⟨_, _, _, _, _, _⟩) (v := ?_) rfl (by kernel_rfl) (by kernel_rfl) (by kernel_rfl) (fun _ _ _ h => h) (Or.inl ⟨by rfl, ?_⟩) hHeld ?_
    rotate_left
    · intro w' hSw; have q0 : w'.cell? ⟨w2.heap.size, 0, none⟩ = some (.int .i64 cl) := (by rw [hSw.cell]; rfl); have q1 : w'.cell? ⟨w2.heap.size, 1, none⟩ = some (.int .i64 me) := (by rw [hSw.cell]; rfl); have q2 : w'.cell? ⟨w2.heap.size, 2, none⟩ = some (.slice A' gs.length c') := (by rw [hSw.cell]; rfl); go_simp; (try with_reducible rfl)
    try simp only [Act.put, List.setIfInBounds_toArray, List.set_cons_zero, List.set_cons_succ]
    refine wpAnyH_ready (rs := [3, 6]) (by kernel_rfl) (by simp) ?_
    refine (AllReadyH.cons (o := ⟨_, _, _, _, _, _⟩) rfl (fun K hK => ?_) (AllReadyH.cons (o := ⟨_, _, _, _, _, _⟩) rfl (fun K hK => ?_) AllReadyH.nil))
    · skip
      have hcv5 := HCV.out _ HW5.out
      go_simp
      go_wp2_with fail
      refine hK.out _ _ HS5.out (fun hHeld => ?_)
      clear hK K
      try simp only [Act.put, List.setIfInBounds_toArray, List.set_cons_zero, List.set_cons_succ]
      refine wpAnyH_ready (rs := [6]) (by kernel_rfl) (by simp) ?_
      refine (AllReadyH.cons (o := ⟨_, _, _, _, _, _⟩) rfl (fun K hK => ?_) AllReadyH.nil)
      go_simp
      refine HMB.out.mono ?_
      rintro e w6 ⟨svm, rfl, ho6, hb6⟩
      rw [HMe.out] at ho6
      have HW6 := Lib.hid hb6
      have HS6 := Lib.hid (HS5.out.below hb6 HS5.out.lt)
      have HFB := Lib.hid (FrameBytes_any 1 ch svm PL w6 (by omega) (by omega) ho6.rb HPLen.out)
      obtain ⟨A6, c6, hsv6⟩ := own_shape ho6
      subst hsv6
      clear ho6 hb6
      go_wp2_with fail
      refine hK.out _ _ HS6.out (fun hHeld => ?_)
      clear hK K
      try simp only [Act.put, List.setIfInBounds_toArray, List.set_cons_zero, List.set_cons_succ]
      refine wpAnyH_ready (rs := [7]) (by kernel_rfl) (by simp) ?_
      refine (AllReadyH.cons (o := ⟨_, _, _, _, _, _⟩) rfl (fun K hK => ?_) AllReadyH.nil)
      go_simp
      refine HFB.out.mono ?_
      rintro e w7 ⟨sv7, rfl, ho7, hb7⟩
      have HW7 := Lib.hid (HW6.out.trans (hb7.mono HW6.out.size))
      have HS7 := Lib.hid (HS6.out.below hb7 HS6.out.lt)
      have hcw7 := conv_own27 ho7
      obtain ⟨A7, c7, hsv7⟩ := own_shape ho7
      subst hsv7
      clear ho7 hb7
      go_wp2_with fail
      refine hK.out _ _ HS7.out (fun hHeld => ?_)
      clear hK K
      try simp only [Act.put, List.setIfInBounds_toArray, List.set_cons_zero, List.set_cons_succ]
      refine wpAnyH_ready (rs := [8]) (by kernel_rfl) (by simp) ?_
      refine (AllReadyH.cons (o := ⟨_, _, _, _, _, _⟩) rfl (fun K hK => ?_) AllReadyH.nil)
      go_simp
      go_wp2_with fail
      refine hK.out _ _ HS7.out (fun hHeld => ?_)
      clear hK K
      try simp only [Act.put, List.setIfInBounds_toArray, List.set_cons_zero, List.set_cons_succ]
      refine wpAnyH_take (i := 9) (oi := ⟨_, _, _, _, _, _⟩) (v := ?_) rfl (by kernel_rfl) (by kernel_rfl) (by kernel_rfl) (fun _ _ _ h => h) (Or.inl ⟨by rfl, ?_⟩) hHeld ?_
      rotate_left
      · (intro w' hSw; go_simp; (try with_reducible rfl))
      try simp only [Act.put, List.setIfInBounds_toArray, List.set_cons_zero, List.set_cons_succ]
      refine wpAnyH_take (i := 10) (oi := ⟨_, _, _, _, _, _⟩) (v := ?_) rfl (by kernel_rfl) (by kernel_rfl) (by kernel_rfl) (fun _ _ _ h => h) (Or.inl ⟨by rfl, ?_⟩) hHeld ?_
      rotate_left
      · (intro w' hSw; go_simp; (try with_reducible rfl))
      try simp only [Act.put, List.setIfInBounds_toArray, List.set_cons_zero, List.set_cons_succ]
      refine wpAnyH_take (i := 11) (oi := ⟨_, _, _, _, _, _⟩) (v := ?_) rfl (by kernel_rfl) (by kernel_rfl) (by kernel_rfl) (fun _ _ _ h => h) (Or.inl ⟨by rfl, ?_⟩) hHeld ?_
      rotate_left
      · (intro w' hSw; go_simp; (try with_reducible rfl))
      try simp only [Act.put, List.setIfInBounds_toArray, List.set_cons_zero, List.set_cons_succ]
      refine wpAnyH_ready (rs := [12]) (by kernel_rfl) (by simp) ?_
      refine (AllReadyH.cons (o := ⟨_, _, _, _, _, _⟩) rfl (fun K hK => ?_) AllReadyH.nil)
      go_simp
      refine (works_any _).mono ?_
      rintro e w9 ⟨rfl, hb9⟩
      have HS9 := Lib.hid (HS7.out.below hb9 HS7.out.lt)
      have HW9 := Lib.hid (HW7.out.trans (hb9.mono HW7.out.size))
      clear hb9
      go_wp2_with fail
      refine hK.out _ _ HS9.out (fun hHeld => ?_)
      clear hK K
      try simp only [Act.put, List.setIfInBounds_toArray, List.set_cons_zero, List.set_cons_succ]
      refine wpAnyH_take (i := 13) (oi := ⟨_, _, _, _, _, _⟩) (v := ?_) rfl (by kernel_rfl) (by kernel_rfl) (by kernel_rfl) (fun _ _ _ h => h) (Or.inl ⟨by rfl, ?_⟩) hHeld ?_
      rotate_left
      · (intro w' hSw; go_simp; (try with_reducible rfl))
      try simp only [Act.put, List.setIfInBounds_toArray, List.set_cons_zero, List.set_cons_succ]
      refine wpAnyH_take (i := 14) (oi := ⟨_, _, _, _, _, _⟩) (v := ?_) rfl (by kernel_rfl) (by kernel_rfl) (by kernel_rfl) (fun _ _ _ h => h) (Or.inl ⟨by rfl, ?_⟩) hHeld ?_
      rotate_left
      · (intro w' hSw; go_simp; (try with_reducible rfl))
      try simp only [Act.put, List.setIfInBounds_toArray, List.set_cons_zero, List.set_cons_succ]
      refine wpAnyH_done (by kernel_rfl) ?_ _
      go_wp2
      go_ret
      exact ⟨rfl, HB5.out.drew.trans (HW9.out.mono HB5.out.size)⟩
    · skip
      go_simp
      refine HMB.out.mono ?_
      rintro e w6 ⟨svm, rfl, ho6, hb6⟩
      rw [HMe.out] at ho6
      have HW6 := Lib.hid hb6
      have HS6 := Lib.hid (HS5.out.below hb6 HS5.out.lt)
      have HFB := Lib.hid (FrameBytes_any 1 ch svm PL w6 (by omega) (by omega) ho6.rb HPLen.out)
      obtain ⟨A6, c6, hsv6⟩ := own_shape ho6
      subst hsv6
      clear ho6 hb6
      go_wp2_with fail
      refine hK.out _ _ HS6.out (fun hHeld => ?_)
      clear hK K
      try simp only [Act.put, List.setIfInBounds_toArray, List.set_cons_zero, List.set_cons_succ]
      refine wpAnyH_ready (rs := [3, 7]) (by kernel_rfl) (by simp) ?_
      refine (AllReadyH.cons (o := ⟨_, _, _, _, _, _⟩) rfl (fun K hK => ?_) (AllReadyH.cons (o := ⟨_, _, _, _, _, _⟩) rfl (fun K hK => ?_) AllReadyH.nil))
      · skip
        have hcv6 := HCV.out _ HW6.out
        go_simp
        go_wp2_with fail
        refine hK.out _ _ HS6.out (fun hHeld => ?_)
        clear hK K
        try simp only [Act.put, List.setIfInBounds_toArray, List.set_cons_zero, List.set_cons_succ]
        refine wpAnyH_ready (rs := [7]) (by kernel_rfl) (by simp) ?_
        refine (AllReadyH.cons (o := ⟨_, _, _, _, _, _⟩) rfl (fun K hK => ?_) AllReadyH.nil)
        go_simp
        refine HFB.out.mono ?_
        rintro e w7 ⟨sv7, rfl, ho7, hb7⟩
        have HW7 := Lib.hid (HW6.out.trans (hb7.mono HW6.out.size))
        have HS7 := Lib.hid (HS6.out.below hb7 HS6.out.lt)
        have hcw7 := conv_own27 ho7
        obtain ⟨A7, c7, hsv7⟩ := own_shape ho7
        subst hsv7
        clear ho7 hb7
        go_wp2_with fail
        refine hK.out _ _ HS7.out (fun hHeld => ?_)
        clear hK K
        try simp only [Act.put, List.setIfInBounds_toArray, List.set_cons_zero, List.set_cons_succ]
        refine wpAnyH_ready (rs := [8]) (by kernel_rfl) (by simp) ?_
        refine (AllReadyH.cons (o := ⟨_, _, _, _, _, _⟩) rfl (fun K hK => ?_) AllReadyH.nil)
        go_simp
        go_wp2_with fail
        refine hK.out _ _ HS7.out (fun hHeld => ?_)
        clear hK K
        try simp only [Act.put, List.setIfInBounds_toArray, List.set_cons_zero, List.set_cons_succ]
        refine wpAnyH_take (i := 9) (oi := ⟨_, _, _, _, _, _⟩) (v := ?_) rfl (by kernel_rfl) (by kernel_rfl) (by kernel_rfl) (fun _ _ _ h => h) (Or.inl ⟨by rfl, ?_⟩) hHeld ?_
        rotate_left
        · (intro w' hSw; go_simp; (try with_reducible rfl))
        try simp only [Act.put, List.setIfInBounds_toArray, List.set_cons_zero, List.set_cons_succ]
        refine wpAnyH_take (i := 10) (oi := ⟨_, _, _, _, _, _⟩) (v := ?_) rfl (by kernel_rfl) (by kernel_rfl) (by kernel_rfl) (fun _ _ _ h => h) (Or.inl ⟨by rfl, ?_⟩) hHeld ?_
        rotate_left
        · (intro w' hSw; go_simp; (try with_reducible rfl))
        try simp only [Act.put, List.setIfInBounds_toArray, List.set_cons_zero, List.set_cons_succ]
        refine wpAnyH_take (i := 11) (oi := ⟨_, _, _, _, _, _⟩) (v := ?_) rfl (by kernel_rfl) (by kernel_rfl) (by kernel_rfl) (fun _ _ _ h => h) (Or.inl ⟨by rfl, ?_⟩) hHeld ?_
        rotate_left
        · (intro w' hSw; go_simp; (try with_reducible rfl))
        try simp only [Act.put, List.setIfInBounds_toArray, List.set_cons_zero, List.set_cons_succ]
        refine wpAnyH_ready (rs := [12]) (by kernel_rfl) (by simp) ?_
        refine (AllReadyH.cons (o := ⟨_, _, _, _, _, _⟩) rfl (fun K hK => ?_) AllReadyH.nil)
        go_simp
        refine (works_any _).mono ?_
        rintro e w9 ⟨rfl, hb9⟩
        have HS9 := Lib.hid (HS7.out.below hb9 HS7.out.lt)
        have HW9 := Lib.hid (HW7.out.trans (hb9.mono HW7.out.size))
        clear hb9
        go_wp2_with fail
        refine hK.out _ _ HS9.out (fun hHeld => ?_)
        clear hK K
        try simp only [Act.put, List.setIfInBounds_toArray, List.set_cons_zero, List.set_cons_succ]
        refine wpAnyH_take (i := 13) (oi := ⟨_, _, _, _, _, _⟩) (v := ?_) rfl (by kernel_rfl) (by kernel_rfl) (by kernel_rfl) (fun _ _ _ h => h) (Or.inl ⟨by rfl, ?_⟩) hHeld ?_
        rotate_left
        · (intro w' hSw; go_simp; (try with_reducible rfl))
        try simp only [Act.put, List.setIfInBounds_toArray, List.set_cons_zero, List.set_cons_succ]
        refine wpAnyH_take (i := 14) (oi := ⟨_, _, _, _, _, _⟩) (v := ?_) rfl (by kernel_rfl) (by kernel_rfl) (by kernel_rfl) (fun _ _ _ h => h) (Or.inl ⟨by rfl, ?_⟩) hHeld ?_
        rotate_left
        · (intro w' hSw; go_simp; (try with_reducible rfl))
        try simp only [Act.put, List.setIfInBounds_toArray, List.set_cons_zero, List.set_cons_succ]
        refine wpAnyH_done (by kernel_rfl) ?_ _
        go_wp2
        go_ret
        exact ⟨rfl, HB5.out.drew.trans (HW9.out.mono HB5.out.size)⟩
      · skip
        go_simp
        refine HFB.out.mono ?_
        rintro e w7 ⟨sv7, rfl, ho7, hb7⟩
        have HW7 := Lib.hid (HW6.out.trans (hb7.mono HW6.out.size))
        have HS7 := Lib.hid (HS6.out.below hb7 HS6.out.lt)
        have hcw7 := conv_own27 ho7
        obtain ⟨A7, c7, hsv7⟩ := own_shape ho7
        subst hsv7
        clear ho7 hb7
        go_wp2_with fail
        refine hK.out _ _ HS7.out (fun hHeld => ?_)
        clear hK K
        try simp only [Act.put, List.setIfInBounds_toArray, List.set_cons_zero, List.set_cons_succ]
        refine wpAnyH_ready (rs := [3, 8]) (by kernel_rfl) (by simp) ?_
        refine (AllReadyH.cons (o := ⟨_, _, _, _, _, _⟩) rfl (fun K hK => ?_) (AllReadyH.cons (o := ⟨_, _, _, _, _, _⟩) rfl (fun K hK => ?_) AllReadyH.nil))
        · skip
          have hcv7 := HCV.out _ HW7.out
          go_simp
          go_wp2_with fail
          refine hK.out _ _ HS7.out (fun hHeld => ?_)
          clear hK K
          try simp only [Act.put, List.setIfInBounds_toArray, List.set_cons_zero, List.set_cons_succ]
          refine wpAnyH_ready (rs := [8]) (by kernel_rfl) (by simp) ?_
          refine (AllReadyH.cons (o := ⟨_, _, _, _, _, _⟩) rfl (fun K hK => ?_) AllReadyH.nil)
          go_simp
          go_wp2_with fail
          refine hK.out _ _ HS7.out (fun hHeld => ?_)
          clear hK K
          try simp only [Act.put, List.setIfInBounds_toArray, List.set_cons_zero, List.set_cons_succ]
          refine wpAnyH_take (i := 9) (oi := ⟨_, _, _, _, _, _⟩) (v := ?_) rfl (by kernel_rfl) (by kernel_rfl) (by kernel_rfl) (fun _ _ _ h => h) (Or.inl ⟨by rfl, ?_⟩) hHeld ?_
          rotate_left
          · (intro w' hSw; go_simp; (try with_reducible rfl))
          try simp only [Act.put, List.setIfInBounds_toArray, List.set_cons_zero, List.set_cons_succ]
          refine wpAnyH_take (i := 10) (oi := ⟨_, _, _, _, _, _⟩) (v := ?_) rfl (by kernel_rfl) (by kernel_rfl) (by kernel_rfl) (fun _ _ _ h => h) (Or.inl ⟨by rfl, ?_⟩) hHeld ?_
          rotate_left
          · (intro w' hSw; go_simp; (try with_reducible rfl))
          try simp only [Act.put, List.setIfInBounds_toArray, List.set_cons_zero, List.set_cons_succ]
          refine wpAnyH_take (i := 11) (oi := ⟨_, _, _, _, _, _⟩) (v := ?_) rfl (by kernel_rfl) (by kernel_rfl) (by kernel_rfl) (fun _ _ _ h => h) (Or.inl ⟨by rfl, ?_⟩) hHeld ?_
          rotate_left
          · (intro w' hSw; go_simp; (try with_reducible rfl))
          try simp only [Act.put, List.setIfInBounds_toArray, List.set_cons_zero, List.set_cons_succ]
          refine wpAnyH_ready (rs := [12]) (by kernel_rfl) (by simp) ?_
          refine (AllReadyH.cons (o := ⟨_, _, _, _, _, _⟩) rfl (fun K hK => ?_) AllReadyH.nil)
          go_simp
          refine (works_any _).mono ?_
          rintro e w9 ⟨rfl, hb9⟩
          have HS9 := Lib.hid (HS7.out.below hb9 HS7.out.lt)
          have HW9 := Lib.hid (HW7.out.trans (hb9.mono HW7.out.size))
          clear hb9
          go_wp2_with fail
          refine hK.out _ _ HS9.out (fun hHeld => ?_)
          clear hK K
          try simp only [Act.put, List.setIfInBounds_toArray, List.set_cons_zero, List.set_cons_succ]
          refine wpAnyH_take (i := 13) (oi := ⟨_, _, _, _, _, _⟩) (v := ?_) rfl (by kernel_rfl) (by kernel_rfl) (by kernel_rfl) (fun _ _ _ h => h) (Or.inl ⟨by rfl, ?_⟩) hHeld ?_
          rotate_left
          · (intro w' hSw; go_simp; (try with_reducible rfl))
          try simp only [Act.put, List.setIfInBounds_toArray, List.set_cons_zero, List.set_cons_succ]
          refine wpAnyH_take (i := 14) (oi := ⟨_, _, _, _, _, _⟩) (v := ?_) rfl (by kernel_rfl) (by kernel_rfl) (by kernel_rfl) (fun _ _ _ h => h) (Or.inl ⟨by rfl, ?_⟩) hHeld ?_
          rotate_left
          · (intro w' hSw; go_simp; (try with_reducible rfl))
          try simp only [Act.put, List.setIfInBounds_toArray, List.set_cons_zero, List.set_cons_succ]
          refine wpAnyH_done (by kernel_rfl) ?_ _
          go_wp2
          go_ret
          exact ⟨rfl, HB5.out.drew.trans (HW9.out.mono HB5.out.size)⟩
        · skip
          go_simp
          go_wp2_with fail
          refine hK.out _ _ HS7.out (fun hHeld => ?_)
          clear hK K
          try simp only [Act.put, List.setIfInBounds_toArray, List.set_cons_zero, List.set_cons_succ]
          refine wpAnyH_ready (rs := [3]) (by kernel_rfl) (by simp) ?_
          refine (AllReadyH.cons (o := ⟨_, _, _, _, _, _⟩) rfl (fun K hK => ?_) AllReadyH.nil)
          have hcv7 := HCV.out _ HW7.out
          go_simp
          go_wp2_with fail
          refine hK.out _ _ HS7.out (fun hHeld => ?_)
          clear hK K
          try simp only [Act.put, List.setIfInBounds_toArray, List.set_cons_zero, List.set_cons_succ]
          refine wpAnyH_take (i := 9) (oi := ⟨_, _, _, _, _, _⟩) (v := ?_) rfl (by kernel_rfl) (by kernel_rfl) (by kernel_rfl) (fun _ _ _ h => h) (Or.inl ⟨by rfl, ?_⟩) hHeld ?_
          rotate_left
          · (intro w' hSw; go_simp; (try with_reducible rfl))
          try simp only [Act.put, List.setIfInBounds_toArray, List.set_cons_zero, List.set_cons_succ]
          refine wpAnyH_take (i := 10) (oi := ⟨_, _, _, _, _, _⟩) (v := ?_) rfl (by kernel_rfl) (by kernel_rfl) (by kernel_rfl) (fun _ _ _ h => h) (Or.inl ⟨by rfl, ?_⟩) hHeld ?_
          rotate_left
          · (intro w' hSw; go_simp; (try with_reducible rfl))
          try simp only [Act.put, List.setIfInBounds_toArray, List.set_cons_zero, List.set_cons_succ]
          refine wpAnyH_take (i := 11) (oi := ⟨_, _, _, _, _, _⟩) (v := ?_) rfl (by kernel_rfl) (by kernel_rfl) (by kernel_rfl) (fun _ _ _ h => h) (Or.inl ⟨by rfl, ?_⟩) hHeld ?_
          rotate_left
          · (intro w' hSw; go_simp; (try with_reducible rfl))
          try simp only [Act.put, List.setIfInBounds_toArray, List.set_cons_zero, List.set_cons_succ]
          refine wpAnyH_ready (rs := [12]) (by kernel_rfl) (by simp) ?_
          refine (AllReadyH.cons (o := ⟨_, _, _, _, _, _⟩) rfl (fun K hK => ?_) AllReadyH.nil)
          go_simp
          refine (works_any _).mono ?_
          rintro e w9 ⟨rfl, hb9⟩
          have HS9 := Lib.hid (HS7.out.below hb9 HS7.out.lt)
          have HW9 := Lib.hid (HW7.out.trans (hb9.mono HW7.out.size))
          clear hb9
          go_wp2_with fail
          refine hK.out _ _ HS9.out (fun hHeld => ?_)
          clear hK K
          try simp only [Act.put, List.setIfInBounds_toArray, List.set_cons_zero, List.set_cons_succ]
          refine wpAnyH_take (i := 13) (oi := ⟨_, _, _, _, _, _⟩) (v := ?_) rfl (by kernel_rfl) (by kernel_rfl) (by kernel_rfl) (fun _ _ _ h => h) (Or.inl ⟨by rfl, ?_⟩) hHeld ?_
          rotate_left
          · (intro w' hSw; go_simp; (try with_reducible rfl))
          try simp only [Act.put, List.setIfInBounds_toArray, List.set_cons_zero, List.set_cons_succ]
          refine wpAnyH_take (i := 14) (oi := ⟨_, _, _, _, _, _⟩) (v := ?_) rfl (by kernel_rfl) (by kernel_rfl) (by kernel_rfl) (fun _ _ _ h => h) (Or.inl ⟨by rfl, ?_⟩) hHeld ?_
          rotate_left
          · (intro w' hSw; go_simp; (try with_reducible rfl))
          try simp only [Act.put, List.setIfInBounds_toArray, List.set_cons_zero, List.set_cons_succ]
          refine wpAnyH_done (by kernel_rfl) ?_ _
          go_wp2
          go_ret
          exact ⟨rfl, HB5.out.drew.trans (HW9.out.mono HB5.out.size)⟩
  · have hd : decide (gs.length ≤ 2147483647) = false := by simp [hbig]
    rw [hd]
    clear hd
    go_wp2
    go_ret
    exact ⟨rfl, HBel1.out⟩

end Go.Proofs.YtabeppaehenefaaGreat
