/-
  FnTable: the walk of the statement's function.
-/
import Derived.Test.YtkcdakohmfodjaaIe
import Derived.Test.YtkcdakohmfodjaaFits
import Derived.Test.YtkcdakohmfodjaaC1
import Derived.Test.YtkcdakohmfodjaaS3
import Derived.Test.YtkcdakohmfodjaaG1
namespace Go.Proofs.Ytkcdakohmfodjaa
open Go.RowKit Go.Maps

/-- what a table that fits says of the input -/
theorem cut_fits {fs : Fs} {r' : Int} (h : (fs.cut 10 4000).fit 6 none 2000 = some r') : fs.good none ∧ fs.enc = (fs.cut 10 4000).enc ∧ fs.enc.length ≤ 20000 ∧ (fs.cut 10 4000).good none := by
  have hg := Fs.fit_good (fs.cut 10 4000) 6 none 2000 r' (by omega) h
  unfold Fs.cut at h hg ⊢
  cases hc : (fs.cutO 10 4000).1 with
  | none =>
    rw [hc] at h
    simp only [Option.getD_none] at h
    rw [Fs.fit] at h
    split at h
    · cases h
    · rw [zeroV_fit] at h; cases h
  | some q =>
    rw [hc] at h hg
    simp only [Option.getD_some] at h hg ⊢
    obtain ⟨g1, g2, g3, g4⟩ := Fs.cut_fit fs 10 6 none 4000 2000 r' q hc (by omega) h
    have := g4 (by omega)
    exact ⟨g1, g2, by omega, hg.1⟩

theorem cut_okay {fs : Fs} (h : fs.ok) (hl : fs.len ≤ 140737488355328) : (fs.cut 10 4000).ok ∧ (fs.cut 10 4000).len ≤ 140737488355328 := by
  have hk := (Fs.cut_ok fs 10 4000 h (by omega)).1
  unfold Fs.cut
  cases hc : (fs.cutO 10 4000).1 with
  | none => exact ⟨oneF_ok, by simp [Fs.len]⟩
  | some q =>
    obtain ⟨a, b⟩ := hk q hc
    exact ⟨a, by simp only [Option.getD_some]; omega⟩

set_option maxRecDepth 100000 in
set_option maxHeartbeats 4000000 in
/-- FnTable -/
theorem FnTable_any {fs : Fs} {A : Option Addr} {c : Nat} {xs : List Value} {p : Nat → Prop} {w : World} (hok : fs.ok) (hlen : fs.len ≤ 140737488355328) (hR : Rd w p A xs) (hF : FsC w p fs xs) (hc : fs.len ≤ c) (hp : ∀ g, p g → g < w.heap.size) :
    Calls Try.prog 3 #[.slice A fs.len c] w fun e w' => e = .returned (.bool true) ∧ Below w.heap.size w w' := by
  have Hok := Lib.hid hok
  have HR := Lib.hid hR
  have HF := Lib.hid hF
  have HP := Lib.hid hp
  have H1 := Lib.hid (table_any (fs := fs) (A := A) (c := c) (xs := xs) (p := p) (w := w) hok hlen hR hF hc hp)
  have HCok := Lib.hid (cut_okay hok hlen)
  clear hok hR hF hp
  by_cases hbig : fs.len ≤ 2147483647
  · go_enter Try.func3, Try.ntmps3
    go_wp2_with fail
    refine H1.out.mono ?_
    rintro e w1 ⟨A', c', ys, rfl, h1, h2, h3, hb1⟩
    have H2 := Lib.hid (Fits_any _ A' c' ys (New w w1) w1 HCok.out.1 HCok.out.2 h1 h2 h3 (fun g hg => hg.2))
    have HR1 := Lib.hid h1
    have HF1 := Lib.hid h2
    clear h1 h2
    go_wp2_with fail
    refine H2.out.mono ?_
    rintro e w2 ⟨b, rfl, hb2, hfit⟩
    have hb12 := hb1.trans (hb2.mono hb1.size)
    cases b
    · clear hfit
      go_wp2_with fail
      refine (works_any w2).mono ?_
      rintro e w3 ⟨rfl, hb3⟩
      go_wp2
      go_ret
      exact ⟨rfl, hb12.trans (hb3.mono hb12.size)⟩
    · obtain ⟨r', hr⟩ := hfit rfl
      obtain ⟨f1, f2, f3, f4⟩ := cut_fits hr
      have hsz1 := hb2.size
      have hsz := hb12.size
      have H3 := Lib.hid (FormatTable_any (w := w2) f1 Hok.out hlen (HR.out.keep (fun g hg => hb12.block g (HP.out g hg))) (HF.out.keep (fun g hg => hb12.block g (HP.out g hg))) hc (fun g hg => by have := HP.out g hg; omega) (by omega))
      have HF2 := Lib.hid f2
      have HF4 := Lib.hid f4
      clear hr f1 f2 f4 hfit
      go_wp2_with fail
      refine H3.out.mono ?_
      rintro e w3 ⟨sv, rfl, ho3, hb3⟩
      have hb13 := hb2.trans (hb3.mono hb2.size)
      have hsz3 := hb3.size
      have hw3 : ∀ g, New w w1 g → g < w3.heap.size := fun g hg => by have := hg.2; omega
      have hk3 : ∀ g, New w w1 g → w3.heap[g]? = w1.heap[g]? := fun g hg => hb13.block g hg.2
      have H4 := Lib.hid (TableBytes_any (fs.cut 10 4000) none A' c' ys (New w w1) w3.drew HF4.out HCok.out.1 HCok.out.2 (HR1.out.keep (w1 := w3.drew) hk3) (HF1.out.keep (w1 := w3.drew) hk3) h3 hw3 (by rw [← HF2.out]; omega))
      have hcv := conv_own27 ho3
      have hcv' := conv_own27 ho3.drew
      have HO := Lib.hid ho3
      have htab : tab (fs.cut 10 4000) = tab fs := by unfold tab; rw [HF2.out]
      have HT := Lib.hid htab
      clear htab ho3 hw3 hk3
      obtain ⟨A9, c9, hsv⟩ := own_shape HO.out
      subst hsv
      go_wp2_with fail
      go_region_with (first
        | (go_at_call 11; refine H4.out.mono ?_; rintro e w4 ⟨sv4, rfl, ho4, hb4⟩; rw [HT.out] at ho4; have hcv4 := conv_own27 ho4; have hcv3 := conv_own27 (HO.out.drew.belowAll hb4); obtain ⟨A8, c8, hsv⟩ := own_shape ho4; subst hsv)
        | (go_at_call 9; refine (works_any _).mono ?_; rintro e w5 ⟨rfl, hb5⟩))
      all_goals
        go_wp2
        go_ret
        refine ⟨rfl, ?_⟩
        have q1 : Below w.heap.size w w3 := hb12.trans (hb3.mono hb12.size)
        have q2 : Below w.heap.size w w4 := q1.drew.trans (hb4.mono q1.size)
        exact q2.trans (hb5.mono q2.size)
  · have hbig' : 2147483647 < fs.len := by omega
    go_enter Try.func3, Try.ntmps3
    go_wp2
    go_ret
    exact ⟨rfl, Below.refl _ _⟩

end Go.Proofs.Ytkcdakohmfodjaa
