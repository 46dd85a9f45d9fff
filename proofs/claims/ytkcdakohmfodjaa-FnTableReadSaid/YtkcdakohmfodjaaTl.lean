/-
  FnTableRead: ParseTable of a table with others behind it; laws.told; the walk of the statement's function.
-/
import Derived.Test.YtkcdakohmfodjaaTk
import Derived.Test.YtkcdakohmfodjaaTw
namespace Go.Proofs.Ytkcdakohmfodjaa
open Go.RowKit Go.Maps
attribute [local go_sem ↓] Go.wp_at_zero Go.wp_at_succ

set_option maxRecDepth 100000 in
set_option maxHeartbeats 2000000 in
/-- ParseTable -/
theorem ParseTable_ok {fs : Fs} (hT : RTab 0 fs) (hg : fs.good none) (hok : fs.ok) (hl : fs.len ≤ 20000) {B : Nat} {x : Value} {ys : List UInt8} {w : World} (hx : Rb w B x (tab fs ++ ys)) (hBw : B ≤ w.heap.size) (hys : (tab fs ++ ys).length ≤ 1000000000) :
    Calls Try.prog 14 #[x] w fun e w' => ∃ A c us, e = .returned (.tuple #[.slice A fs.len c, .int .i64 ys.length, .bool true]) ∧ fs.len ≤ c ∧ Rd w' (New w w') A us ∧ FsC w' (New w w') fs.nrm us ∧ Below w.heap.size w w' := by
  obtain ⟨L, hL⟩ : ∃ L, L = ys.length := ⟨_, rfl⟩
  obtain ⟨L2, hL2⟩ : ∃ L2, L2 = (tab fs ++ ys).length := ⟨_, rfl⟩
  obtain ⟨A, c, hv⟩ : ∃ A c, x = .slice A L2 c := by obtain ⟨A, c, e, _⟩ := hx; exact ⟨A, c, by rw [hL2]; exact e⟩
  subst hv
  have HX := Lib.hid hx
  have HT := Lib.hid hT
  have HG := Lib.hid hg
  have Hok := Lib.hid hok
  have HL := Lib.hid hL
  have Hys := Lib.hid hys
  rw [← hL]
  clear hx hT hg hok hL hL2 hys
  go_enter Try.func14, Try.ntmps14
  go_wp2_with fail
  have b1 : Blk ((((w.alloc (.cells #[.slice A L2 c] 27)).alloc (.cells #[.slice none 0 0] 22)).alloc (.cells #[.int .i64 0] 3)).alloc (.cells #[.bool false] 4)) w.heap.size 27 #[.slice A L2 c] :=
    (((Blk.new w _ _).alloc _).alloc _).alloc _
  have b2 : Blk ((((w.alloc (.cells #[.slice A L2 c] 27)).alloc (.cells #[.slice none 0 0] 22)).alloc (.cells #[.int .i64 0] 3)).alloc (.cells #[.bool false] 4)) (w.heap.size + 1) 22 #[.slice none 0 0] := by
    have := (((Blk.new (w.alloc (.cells #[.slice A L2 c] 27)) 22 #[.slice none 0 0]).alloc (.cells #[.int .i64 0] 3)).alloc (.cells #[.bool false] 4)); simpa using this
  have b3 : Blk ((((w.alloc (.cells #[.slice A L2 c] 27)).alloc (.cells #[.slice none 0 0] 22)).alloc (.cells #[.int .i64 0] 3)).alloc (.cells #[.bool false] 4)) (w.heap.size + 1 + 1) 3 #[.int .i64 0] := by
    have := ((Blk.new ((w.alloc (.cells #[.slice A L2 c] 27)).alloc (.cells #[.slice none 0 0] 22)) 3 #[.int .i64 0]).alloc (.cells #[.bool false] 4)); simpa using this
  have b4 : Blk ((((w.alloc (.cells #[.slice A L2 c] 27)).alloc (.cells #[.slice none 0 0] 22)).alloc (.cells #[.int .i64 0] 3)).alloc (.cells #[.bool false] 4)) (w.heap.size + 1 + 1 + 1) 4 #[.bool false] := by
    have := (Blk.new (((w.alloc (.cells #[.slice A L2 c] 27)).alloc (.cells #[.slice none 0 0] 22)).alloc (.cells #[.int .i64 0] 3)) 4 #[.bool false]); simpa using this
  have hbel : Below w.heap.size w ((((w.alloc (.cells #[.slice A L2 c] 27)).alloc (.cells #[.slice none 0 0] 22)).alloc (.cells #[.int .i64 0] 3)).alloc (.cells #[.bool false] 4)) :=
    ((((Below.refl _ _).alloc (Nat.le_refl _) _).alloc (by simp) _).alloc (by simp; omega) _).alloc (by simp; omega) _
  have hsz : ((((w.alloc (.cells #[.slice A L2 c] 27)).alloc (.cells #[.slice none 0 0] 22)).alloc (.cells #[.int .i64 0] 3)).alloc (.cells #[.bool false] 4)).heap.size = w.heap.size + 4 := by simp
  generalize ((((w.alloc (.cells #[.slice A L2 c] 27)).alloc (.cells #[.slice none 0 0] 22)).alloc (.cells #[.int .i64 0] 3)).alloc (.cells #[.bool false] 4)) = w4 at b1 b2 b3 b4 hbel hsz ⊢
  have hbel5 := hbel.alloc (by omega) (.cells #[.bool false] 4)
  have hcall := parseT1_ok HT.out HG.out Hok.out hl (pf := w.heap.size + 1) (po := w.heap.size + 1 + 1 + 1) (pr := w.heap.size + 1 + 1) (b1.alloc (.cells #[.bool false] 4)) (b2.alloc _) (b4.alloc _) (b3.alloc _) (HX.out.below (hbel5.mono hBw)) Hys.out
  rw [← HL.out] at hcall
  refine (quietly_any (R := fun w' => ∃ A c us, Blk w' (w.heap.size + 1) 22 #[.slice A fs.len c] ∧ Blk w' (w.heap.size + 1 + 1 + 1) 4 #[.bool true] ∧ Blk w' (w.heap.size + 1 + 1) 3 #[.int .i64 L] ∧ fs.len ≤ c ∧ Rd w' (New (w4.alloc (.cells #[.bool false] 4)) w') A us ∧ FsC w' (New (w4.alloc (.cells #[.bool false] 4)) w') fs.nrm us ∧
      But (w4.alloc (.cells #[.bool false] 4)) w' [w.heap.size + 1, w.heap.size + 1 + 1 + 1, w.heap.size + 1 + 1]) (fun w => call27 _ _ _ _ w) (hcall.mono ?_)).mono ?_
  · rintro e w' ⟨rfl, A3, c3, us, k0, k1, k2, k3, k4, k5, k6⟩
    exact ⟨rfl, k6.blk (Blk.new w4 4 _) (by simp; omega), A3, c3, us, k0, k1, k2, k3, k4, k5, k6⟩
  clear hcall
  rintro e w' ⟨rfl, w5, ⟨A3, c3, us, k0, k1, k2, k3, k4, k5, k6⟩, k7, rfl⟩
  have hs5 := k6.size
  simp only [World.size_alloc] at hs5
  have j2 : Blk (w5.setCell ⟨w4.heap.size, 0, none⟩ (.bool true)) (w.heap.size + 1) 22 #[.slice A3 fs.len c3] := k0.far (by simp; omega) _
  have j3 : Blk (w5.setCell ⟨w4.heap.size, 0, none⟩ (.bool true)) (w.heap.size + 1 + 1) 3 #[.int .i64 L] := k2.far (by simp; omega) _
  have j4 : Blk (w5.setCell ⟨w4.heap.size, 0, none⟩ (.bool true)) (w.heap.size + 1 + 1 + 1) 4 #[.bool true] := k1.far (by simp; omega) _
  have j5 : Below w.heap.size w (w5.setCell ⟨w4.heap.size, 0, none⟩ (.bool true)) :=
    (hbel.trans (((Below.refl _ _).alloc (by omega) _).trans (k6.below (by simp; omega) (by simp; omega)))).setCell (by simp; omega) _
  have j6 : Rd (w5.setCell ⟨w4.heap.size, 0, none⟩ (.bool true)) (fun g => w.heap.size + 5 ≤ g ∧ g < w5.heap.size) A3 us := (k4.keep (fun g hg => Below.heap_setCell _ _ _ _ (by have := hg.1; simp only [World.size_alloc] at this; show g ≠ w4.heap.size; omega))).more (fun g hg => ⟨by have := hg.1; simp only [World.size_alloc] at this; omega, hg.2⟩)
  have j7 : FsC (w5.setCell ⟨w4.heap.size, 0, none⟩ (.bool true)) (fun g => w.heap.size + 5 ≤ g ∧ g < w5.heap.size) fs.nrm us := (k5.keep (fun g hg => Below.heap_setCell _ _ _ _ (by have := hg.1; simp only [World.size_alloc] at this; show g ≠ w4.heap.size; omega))).more (fun g hg => ⟨by have := hg.1; simp only [World.size_alloc] at this; omega, hg.2⟩)
  have hs6 : (w5.setCell ⟨w4.heap.size, 0, none⟩ (.bool true)).heap.size = w5.heap.size := by simp [World.setCell]
  have J6 := Lib.hid j6
  have J7 := Lib.hid j7
  have HS6 := Lib.hid hs6
  clear k0 k1 k2 k4 k5 k6 k7 j6 j7 hs6 hbel5 b1 b2 b3 b4
  generalize w5.setCell ⟨w4.heap.size, 0, none⟩ (.bool true) = w6 at j2 j3 j4 j5 J6 J7 HS6 ⊢
  have q0 := j2.cell0
  have q1 := j2.frozen 0
  have q2 := j3.cell0
  have q3 := j3.frozen 0
  have q4 := j4.cell0
  have q5 := j4.frozen 0
  go_wp2_with fail
  go_region
  go_wp2_with fail
  have i2 : Blk (w6.setCell ⟨w.heap.size + 1, 0, none⟩ (.slice A3 fs.len c3)) (w.heap.size + 1) 22 #[.slice A3 fs.len c3] := by simpa using j2.set_ 0 (.slice A3 fs.len c3)
  have i3 : Blk ((w6.setCell ⟨w.heap.size + 1, 0, none⟩ (.slice A3 fs.len c3)).setCell ⟨w.heap.size + 1 + 1, 0, none⟩ (.int .i64 L)) (w.heap.size + 1 + 1) 3 #[.int .i64 L] := by
    have := (j3.far (p := ⟨w.heap.size + 1, 0, none⟩) (by simp; try omega) (.slice A3 fs.len c3)).set_ 0 (.int .i64 L); simpa using this
  have i4 : Blk (((w6.setCell ⟨w.heap.size + 1, 0, none⟩ (.slice A3 fs.len c3)).setCell ⟨w.heap.size + 1 + 1, 0, none⟩ (.int .i64 L)).setCell ⟨w.heap.size + 1 + 1 + 1, 0, none⟩ (.bool true)) (w.heap.size + 1 + 1 + 1) 4 #[.bool true] := by
    have := ((j4.far (p := ⟨w.heap.size + 1, 0, none⟩) (by simp; try omega) (.slice A3 fs.len c3)).far (p := ⟨w.heap.size + 1 + 1, 0, none⟩) (by simp; try omega) (.int .i64 L)).set_ 0 (.bool true); simpa using this
  have f2 : (((w6.setCell ⟨w.heap.size + 1, 0, none⟩ (.slice A3 fs.len c3)).setCell ⟨w.heap.size + 1 + 1, 0, none⟩ (.int .i64 L)).setCell ⟨w.heap.size + 1 + 1 + 1, 0, none⟩ (.bool true)).drew.cell? ⟨w.heap.size + 1, 0, none⟩ = some (.slice A3 fs.len c3) := ((i2.far (p := ⟨w.heap.size + 1 + 1, 0, none⟩) (by simp; try omega) (.int .i64 L)).far (p := ⟨w.heap.size + 1 + 1 + 1, 0, none⟩) (by simp; try omega) (.bool true)).cell0
  have f3 : (((w6.setCell ⟨w.heap.size + 1, 0, none⟩ (.slice A3 fs.len c3)).setCell ⟨w.heap.size + 1 + 1, 0, none⟩ (.int .i64 L)).setCell ⟨w.heap.size + 1 + 1 + 1, 0, none⟩ (.bool true)).drew.cell? ⟨w.heap.size + 1 + 1, 0, none⟩ = some (.int .i64 L) := (i3.far (p := ⟨w.heap.size + 1 + 1 + 1, 0, none⟩) (by simp; try omega) (.bool true)).cell0
  have f4 : (((w6.setCell ⟨w.heap.size + 1, 0, none⟩ (.slice A3 fs.len c3)).setCell ⟨w.heap.size + 1 + 1, 0, none⟩ (.int .i64 L)).setCell ⟨w.heap.size + 1 + 1 + 1, 0, none⟩ (.bool true)).drew.cell? ⟨w.heap.size + 1 + 1 + 1, 0, none⟩ = some (.bool true) := i4.cell0
  have e1 : Below w.heap.size w (((w6.setCell ⟨w.heap.size + 1, 0, none⟩ (.slice A3 fs.len c3)).setCell ⟨w.heap.size + 1 + 1, 0, none⟩ (.int .i64 L)).setCell ⟨w.heap.size + 1 + 1 + 1, 0, none⟩ (.bool true)).drew := (((j5.setCell (by simp) _).setCell (by simp; omega) _).setCell (by simp; omega) _).drew
  have hz : (((w6.setCell ⟨w.heap.size + 1, 0, none⟩ (.slice A3 fs.len c3)).setCell ⟨w.heap.size + 1 + 1, 0, none⟩ (.int .i64 L)).setCell ⟨w.heap.size + 1 + 1 + 1, 0, none⟩ (.bool true)).drew.heap.size = w5.heap.size := by
    have := HS6.out
    simp [World.setCell, World.drew, this]
  have hkp : ∀ g, (w.heap.size + 5 ≤ g ∧ g < w5.heap.size) → (((w6.setCell ⟨w.heap.size + 1, 0, none⟩ (.slice A3 fs.len c3)).setCell ⟨w.heap.size + 1 + 1, 0, none⟩ (.int .i64 L)).setCell ⟨w.heap.size + 1 + 1 + 1, 0, none⟩ (.bool true)).drew.heap[g]? = w6.heap[g]? := fun g hg =>
    ((Below.heap_setCell _ _ _ _ (by show g ≠ w.heap.size + 1 + 1 + 1; omega)).trans (Below.heap_setCell _ _ _ _ (by show g ≠ w.heap.size + 1 + 1; omega))).trans (Below.heap_setCell _ _ _ _ (by show g ≠ w.heap.size + 1; omega))
  have hmo : ∀ g, (w.heap.size + 5 ≤ g ∧ g < w5.heap.size) → New w (((w6.setCell ⟨w.heap.size + 1, 0, none⟩ (.slice A3 fs.len c3)).setCell ⟨w.heap.size + 1 + 1, 0, none⟩ (.int .i64 L)).setCell ⟨w.heap.size + 1 + 1 + 1, 0, none⟩ (.bool true)).drew g := fun g hg => ⟨by omega, by rw [hz]; exact hg.2⟩
  exact bodyPost_ret (v := .tuple #[.slice A3 fs.len c3, .int .i64 L, .bool true]) (by simp [results, Try.results14, go_sem, f2, f3, f4]) rfl ⟨A3, c3, us, rfl, k3, (J6.out.keep hkp).more hmo, (J7.out.keep hkp).more hmo, e1⟩

/-- laws.told -/
theorem told_any (fs : Fs) (A : Option Addr) (c : Nat) (xs : List Value) (p : Nat → Prop) (w : World) (hok : fs.ok) (hlen : fs.len ≤ 140737488355328) (hR : Rd w p A xs) (hF : FsC w p fs xs) (hc : fs.len ≤ c) (hp : ∀ g, p g → g < w.heap.size) :
    Calls Try.prog 15 #[.slice A fs.len c] w fun e w' => ∃ A' c' ys, e = .returned (.slice A' (fs.cut 10 200000).len c') ∧ Rd w' (New w w') A' ys ∧ FsC w' (New w w') (fs.cut 10 200000) ys ∧ (fs.cut 10 200000).len ≤ c' ∧ Below w.heap.size w w' := by
  have Hok := Lib.hid hok
  have hk : ∀ g, p g → (w.alloc (.cells #[.int .i64 200000] 3)).heap[g]? = w.heap[g]? := fun g hg => Below.heap_alloc _ _ _ (hp g hg)
  have hcall := (all_cut 10 (by omega)).2 fs A c xs p 200000 w.heap.size (w.alloc (.cells #[.int .i64 200000] 3)) hok hlen (hR.keep hk) (hF.keep hk) hc (fun g hg => ⟨by have := hp g hg; simp; omega, by have := hp g hg; omega⟩) (Blk.new w 3 _) (by omega) (by omega)
  have HC := Lib.hid hcall
  clear hcall hok hR hF hk hp
  go_enter Try.func15, Try.ntmps15
  go_wp2_with fail
  refine HC.out.mono ?_
  rintro e w1 ⟨A', c', ys, rfl, h1, h2, h3, h4, h5⟩
  have hs := h5.size
  simp at hs
  have hn : ∀ g, New (w.alloc (.cells #[.int .i64 200000] 3)) w1 g → New w w1 g := by
    rintro g ⟨a, b⟩
    simp at a
    exact ⟨by omega, b⟩
  have HF := Lib.hid (h2.more hn)
  have HR := Lib.hid (h1.more hn)
  have HB := Lib.hid (((Below.refl w.heap.size w).alloc (Nat.le_refl _) (.cells #[.int .i64 200000] 3)).trans (h5.below (by simp) (by simp)))
  clear h1 h2 h5 hn
  go_wp2
  go_ret
  exact ⟨A', c', ys, rfl, HR.out, HF.out, h3, HB.out⟩


theorem own_append {w' : World} {B : Nat} {v' : Value} {xs ys : List UInt8} (h : w'.ownsRow B 5 1 v' (xs.length + ys.length) (bcells xs ++ bcells ys)) : Own w' B v' (xs ++ ys) := by
  unfold Own
  rw [List.length_append, bcells_append]
  exact h

set_option maxRecDepth 100000 in
set_option maxHeartbeats 4000000 in
/-- FnTableRead -/
theorem FnTableRead_any {fs : Fs} {A : Option Addr} {c : Nat} {xs : List Value} {p : Nat → Prop} {w : World} {bv : Value} {bs : List UInt8} (hok : fs.ok) (hlen : fs.len ≤ 140737488355328) (hR : Rd w p A xs) (hF : FsC w p fs xs) (hc : fs.len ≤ c) (hp : ∀ g, p g → g < w.heap.size) (hbs : Rb w w.heap.size bv bs) :
    Calls Try.prog 6 #[.slice A fs.len c, bv] w fun e w' => e = .returned (.bool true) ∧ Below w.heap.size w w' := by
  obtain ⟨i0, hi, hz0, hz1, hz2⟩ := info_parts info5
  have Hok := Lib.hid hok
  have HP := Lib.hid hp
  have H1 := Lib.hid (table_any (fs := fs) (A := A) (c := c) (xs := xs) (p := p) (w := w) hok hlen hR hF hc hp)
  have HCok := Lib.hid (cut_okay hok hlen)
  have HBs := Lib.hid hbs
  obtain ⟨M, hM⟩ : ∃ M, M = bs.length := ⟨_, rfl⟩
  obtain ⟨bA, bc, hbv⟩ : ∃ bA bc, bv = .slice bA M bc := by obtain ⟨bA, bc, e, _⟩ := hbs; exact ⟨bA, bc, by rw [hM]; exact e⟩
  subst hbv
  have HM := Lib.hid hM
  clear hok hR hF hp hbs hM
  by_cases hbig : fs.len ≤ 2147483647
  · by_cases hbig2 : M ≤ 2147483647
    · go_enter Try.func6, Try.ntmps6
      go_wp2_with fail
      refine H1.out.mono ?_
      rintro e w1 ⟨A', c', ys, rfl, h1, h2, h3, hb1⟩
      have H2 := Lib.hid (Fits_any _ A' c' ys (New w w1) w1 HCok.out.1 HCok.out.2 h1 h2 h3 (fun g hg => hg.2))
      have HR1 := Lib.hid h1
      have HF1 := Lib.hid h2
      clear h1 h2
      go_wp2_with fail
      refine H2.out.mono ?_
      rintro e w2 ⟨b, rfl, hb2, hfit⟩
      have hb12 := hb1.trans (hb2.mono hb1.size)
      cases b
      · clear hfit
        go_wp2_with fail
        refine (works_any w2).mono ?_
        rintro e w3 ⟨rfl, hb3⟩
        go_wp2
        go_ret
        exact ⟨rfl, hb12.trans (hb3.mono hb12.size)⟩
      · by_cases h100 : M ≤ 100
        · obtain ⟨r', hr⟩ := hfit rfl
          obtain ⟨f1, f2, f3, f4⟩ := cut_fits hr
          obtain ⟨F, hFe⟩ : ∃ F, F = fs.cut 10 4000 := ⟨_, rfl⟩
          rw [← hFe] at HCok HF1 hr f2 f4 h3 ⊢
          obtain ⟨g1, g2, g3⟩ := Fs.nrm_good F none f4 HCok.out.1
          have hcut := Fs.told_cut hr
          have hrt := table_read hr HCok.out.1
          have hFe2 : F.enc.length ≤ 20000 := by rw [← f2]; exact f3
          have hFl : F.len ≤ 20000 := by have := F.len_enc; omega
          have hsz1 := hb2.size
          have hsz := hb12.size
          have H11 : ∀ wz, Below w1.heap.size w1 wz → Calls Try.prog 11 #[.slice A' F.len c'] wz fun e w' => ∃ sv, e = .returned sv ∧ Own w' wz.heap.size sv (tab F) ∧ Below wz.heap.size wz w' := fun wz hz =>
            TableBytes_any F none A' c' ys (New w w1) wz f4 HCok.out.1 HCok.out.2 (HR1.out.keep (fun g hg => hz.block g hg.2)) (HF1.out.keep (fun g hg => hz.block g hg.2)) h3 (fun g hg => by have := hg.2; have := hz.size; omega) (by omega)
          have HH11 := Lib.hid H11
          have HRT := Lib.hid hrt
          have HG4 := Lib.hid f4
          have HN := Lib.hid (And.intro g1 (And.intro g2 (And.intro g3 hcut)))
          clear hr f1 f2 f3 f4 hfit g1 g2 g3 hcut hrt H11 hFe
          go_wp2_with fail
          refine (HH11.out w2 hb2).mono ?_
          rintro e w3 ⟨sv, rfl, ho3, hb3⟩
          have hb13 := hb2.trans (hb3.mono hb2.size)
          have hbw3 := hb12.trans (hb3.mono hb12.size)
          have hlt : (tab F).length = 4 + F.enc.length := by unfold tab; rw [List.length_append, be_len]
          have hsrc := (HBs.out.below hbw3).src (P := Try.prog) Try.underlying27
          rw [← HM.out] at hsrc
          obtain ⟨L, hL⟩ : ∃ L, L = (tab F).length := ⟨_, rfl⟩
          have hown3 : w3.ownsRow w2.heap.size 5 1 sv L (bcells (tab F)) := by rw [hL]; exact ho3
          have HL := Lib.hid hL
          have Hlt := Lib.hid hlt
          have hLs : L ≤ 30000 := by omega
          clear ho3 hL hlt
          obtain ⟨A3, c3, rfl⟩ := own_shape hown3
          go_wp2_with (at_builtin; refine wpList_append_src _ rfl (.tmp 30) (.tmp 31) 27 27 rfl w2.heap.size 5 i0 (.int .u8 0) 1 1 Try.underlying27 hi hz0 hz1 hz2 rfl _ L (bcells (tab F)) rfl hown3 _ M (bcells bs) rfl hsrc (by unfold maxLen; omega) (by omega) (by have := hb3.size; omega) ?_)
          intro v4 w4 hown4 hg4 hat4
          have hb4 : Below w2.heap.size w2 w4 := hb3.grown hg4 hb3.size (fun g hg => (hown3.lt g hg).1)
          have ho4 : Own w4 w2.heap.size v4 (tab F ++ bs) := own_append (by rw [← HL.out, ← HM.out]; exact hown4)
          have hPT := Lib.hid (ParseTable_ok HRT.out HG4.out HCok.out.1 hFl ho4.rb (Nat.le_refl _) (by rw [List.length_append, ← HL.out, ← HM.out]; omega))
          rw [← HM.out] at hPT
          obtain ⟨A4, c4, rfl⟩ := own_shape ho4
          have hsw : (tab F ++ bs).length = L + M := by rw [List.length_append, ← HL.out, ← HM.out]
          rw [hsw] at hPT ⊢
          have hb14 := hb2.trans (hb4.mono hb2.size)
          clear hown4 hg4 hat4 ho4 hown3 hsrc hsw
          go_wp2_with fail
          refine hPT.out.mono ?_
          rintro e w5 ⟨A5, c5, us, rfl, hc5, hR5, hF5, hb5⟩
          have hb15 : Below w1.heap.size w1 w5 := hb14.trans (hb5.mono hb14.size)
          have hlN : F.nrm.len = F.len := Fs.len_nrm F
          have H15 := Lib.hid (told_any F.nrm A5 c5 us (New w4 w5) w5.drew HN.out.2.2.1 (by rw [hlN]; exact HCok.out.2) (hR5.keep (w1 := w5.drew) (fun _ _ => rfl)) (FsC.keep (w := w5) (w1 := w5.drew) (fun _ _ => rfl) hF5) (by rw [hlN]; exact hc5) (fun g hg => hg.2))
          rw [HN.out.2.2.2, hlN] at H15
          have Hb15 := Lib.hid hb15
          clear hR5 hF5 hb5 hlN
          have htn : tab F.nrm = tab F := by unfold tab; rw [HN.out.2.1]
          have HTn := Lib.hid htn
          have HLN := Lib.hid (Fs.len_nrm F)
          have Hbw := Lib.hid hb1
          clear htn
          go_wp2_with fail
          refine wp_region_held_drew (S := fun _ => True) (by kernel_rfl) trivial (fun hHeld => ?_)
          refine wpAnyH_take (i := 0) (oi := ⟨_, _, _, _, _, _⟩) (v := ?_) rfl (by kernel_rfl) (by kernel_rfl) (by kernel_rfl) (fun _ _ _ h => h) (Or.inl ⟨by rfl, ?_⟩) trivial ?_
          rotate_left
          · (intro w hSw; go_simp; (try with_reducible rfl))
          try simp only [Act.put, List.setIfInBounds_toArray, List.set_cons_zero, List.set_cons_succ]
          refine wpAnyH_take (i := 1) (oi := ⟨_, _, _, _, _, _⟩) (v := ?_) rfl (by kernel_rfl) (by kernel_rfl) (by kernel_rfl) (fun _ _ _ h => h) (Or.inl ⟨by rfl, ?_⟩) trivial ?_
          rotate_left
          · (intro w hSw; go_simp; (try with_reducible rfl))
          try simp only [Act.put, List.setIfInBounds_toArray, List.set_cons_zero, List.set_cons_succ]
          refine wpAnyH_take (i := 2) (oi := ⟨_, _, _, _, _, _⟩) (v := ?_) rfl (by kernel_rfl) (by kernel_rfl) (by kernel_rfl) (fun _ _ _ h => h) (Or.inl ⟨by rfl, ?_⟩) trivial ?_
          rotate_left
          · (intro w hSw; go_simp; (try with_reducible rfl))
          try simp only [Act.put, List.setIfInBounds_toArray, List.set_cons_zero, List.set_cons_succ]
          refine wpAnyH_take (i := 3) (oi := ⟨_, _, _, _, _, _⟩) (v := ?_) rfl (by kernel_rfl) (by kernel_rfl) (by kernel_rfl) (fun _ _ _ h => h) (Or.inl ⟨by rfl, ?_⟩) trivial ?_
          rotate_left
          · (intro w hSw; go_simp; (try with_reducible rfl))
          try simp only [Act.put, List.setIfInBounds_toArray, List.set_cons_zero, List.set_cons_succ]
          refine wpAnyH_take (i := 4) (oi := ⟨_, _, _, _, _, _⟩) (v := ?_) rfl (by kernel_rfl) (by kernel_rfl) (by kernel_rfl) (fun _ _ _ h => h) (Or.inl ⟨by rfl, ?_⟩) trivial ?_
          rotate_left
          · (intro w hSw; go_simp; (try with_reducible rfl))
          try simp only [Act.put, List.setIfInBounds_toArray, List.set_cons_zero, List.set_cons_succ]
          refine wpAnyH_take (i := 5) (oi := ⟨_, _, _, _, _, _⟩) (v := ?_) rfl (by kernel_rfl) (by kernel_rfl) (by kernel_rfl) (fun _ _ _ h => h) (Or.inl ⟨by rfl, ?_⟩) trivial ?_
          rotate_left
          · (intro w hSw; go_simp; (try with_reducible rfl))
          try simp only [Act.put, List.setIfInBounds_toArray, List.set_cons_zero, List.set_cons_succ]
          refine wpAnyH_take (i := 6) (oi := ⟨_, _, _, _, _, _⟩) (v := ?_) rfl (by kernel_rfl) (by kernel_rfl) (by kernel_rfl) (fun _ _ _ h => h) (Or.inl ⟨by rfl, ?_⟩) trivial ?_
          rotate_left
          · (intro w hSw; go_simp; (try with_reducible rfl))
          try simp only [Act.put, List.setIfInBounds_toArray, List.set_cons_zero, List.set_cons_succ]
          refine wpAnyH_take (i := 7) (oi := ⟨_, _, _, _, _, _⟩) (v := ?_) rfl (by kernel_rfl) (by kernel_rfl) (by kernel_rfl) (fun _ _ _ h => h) (Or.inl ⟨by rfl, ?_⟩) trivial ?_
          rotate_left
          · (intro w hSw; go_simp; (try with_reducible rfl))
          try simp only [Act.put, List.setIfInBounds_toArray, List.set_cons_zero, List.set_cons_succ]
          refine wpAnyH_take (i := 8) (oi := ⟨_, _, _, _, _, _⟩) (v := ?_) rfl (by kernel_rfl) (by kernel_rfl) (by kernel_rfl) (fun _ _ _ h => h) (Or.inl ⟨by rfl, ?_⟩) trivial ?_
          rotate_left
          · (intro w hSw; go_simp; (try with_reducible rfl))
          try simp only [Act.put, List.setIfInBounds_toArray, List.set_cons_zero, List.set_cons_succ]
          refine wpAnyH_take (i := 12) (oi := ⟨_, _, _, _, _, _⟩) (v := ?_) rfl (by kernel_rfl) (by kernel_rfl) (by kernel_rfl) (fun _ _ _ h => h) (Or.inl ⟨by rfl, ?_⟩) trivial ?_
          rotate_left
          · (intro w hSw; go_simp; (try with_reducible rfl))
          try simp only [Act.put, List.setIfInBounds_toArray, List.set_cons_zero, List.set_cons_succ]
          refine wpAnyH_ready (rs := [9]) (by kernel_rfl) (by simp) ?_
          refine (AllReadyH.cons (o := ⟨_, _, _, _, _, _⟩) rfl (fun K hK => ?_) AllReadyH.nil)
          go_simp
          refine H15.out.mono ?_
          rintro e w6 ⟨A6, c6, zs, rfl, hR6, hF6, hc6, hb6⟩
          have H11n := TableBytes_any F.nrm none A6 c6 zs (New w5.drew w6) w6 HN.out.1 HN.out.2.2.1 (by rw [HLN.out]; exact HCok.out.2) hR6 hF6 (by rw [HLN.out]; exact hc6) (fun g hg => hg.2) (by rw [HN.out.2.1]; omega)
          rw [HLN.out, HTn.out] at H11n
          have HH11n := Lib.hid H11n
          have Hb16 := Lib.hid (Hb15.out.drew.trans (hb6.mono Hb15.out.size))
          clear H11n hR6 hF6
          go_wp2_with fail
          refine hK.out _ _ trivial (fun _ => ?_)
          clear hK K
          try simp only [Act.put, List.setIfInBounds_toArray, List.set_cons_zero, List.set_cons_succ]
          refine wpAnyH_ready (rs := [10]) (by kernel_rfl) (by simp) ?_
          refine (AllReadyH.cons (o := ⟨_, _, _, _, _, _⟩) rfl (fun K hK => ?_) AllReadyH.nil)
          go_simp
          refine HH11n.out.mono ?_
          rintro e w7 ⟨sv7, rfl, ho7, hb7⟩
          have hcv7 := conv_own27 ho7
          have Hb17 := Lib.hid (Hb16.out.trans (hb7.mono Hb16.out.size))
          have HO7 := Lib.hid ho7
          obtain ⟨A7, c7, hsv⟩ := own_shape ho7
          subst hsv
          clear ho7
          go_wp2_with fail
          refine hK.out _ _ trivial (fun _ => ?_)
          clear hK K
          try simp only [Act.put, List.setIfInBounds_toArray, List.set_cons_zero, List.set_cons_succ]
          refine wpAnyH_ready (rs := [11, 13]) (by kernel_rfl) (by simp) ?_
          refine (AllReadyH.cons (o := ⟨_, _, _, _, _, _⟩) rfl (fun K hK => ?_) (AllReadyH.cons (o := ⟨_, _, _, _, _, _⟩) rfl (fun K hK => ?_) AllReadyH.nil))
          · skip
            go_simp
            go_wp2_with fail
            refine hK.out _ _ trivial (fun _ => ?_)
            clear hK K
            try simp only [Act.put, List.setIfInBounds_toArray, List.set_cons_zero, List.set_cons_succ]
            refine wpAnyH_ready (rs := [13]) (by kernel_rfl) (by simp) ?_
            refine (AllReadyH.cons (o := ⟨_, _, _, _, _, _⟩) rfl (fun K hK => ?_) AllReadyH.nil)
            go_simp
            refine (HH11.out _ Hb17.out).mono ?_
            rintro e w8 ⟨sv8, rfl, ho8, hb8⟩
            have hcv8 := conv_own27 ho8
            have hcv9 := conv_own27 (HO7.out.belowAll hb8)
            have Hb18 := Lib.hid (Hb17.out.trans (hb8.mono Hb17.out.size))
            obtain ⟨A8, c8, hsv⟩ := own_shape ho8
            subst hsv
            clear ho8
            go_wp2_with fail
            refine hK.out _ _ trivial (fun _ => ?_)
            clear hK K
            try simp only [Act.put, List.setIfInBounds_toArray, List.set_cons_zero, List.set_cons_succ]
            refine wpAnyH_ready (rs := [14]) (by kernel_rfl) (by simp) ?_
            refine (AllReadyH.cons (o := ⟨_, _, _, _, _, _⟩) rfl (fun K hK => ?_) AllReadyH.nil)
            go_simp
            go_wp2_with fail
            refine hK.out _ _ trivial (fun _ => ?_)
            clear hK K
            try simp only [Act.put, List.setIfInBounds_toArray, List.set_cons_zero, List.set_cons_succ]
            refine wpAnyH_take (i := 15) (oi := ⟨_, _, _, _, _, _⟩) (v := ?_) rfl (by kernel_rfl) (by kernel_rfl) (by kernel_rfl) (fun _ _ _ h => h) (Or.inl ⟨by rfl, ?_⟩) trivial ?_
            rotate_left
            · (intro w hSw; go_simp; (try with_reducible rfl))
            try simp only [Act.put, List.setIfInBounds_toArray, List.set_cons_zero, List.set_cons_succ]
            refine wpAnyH_take (i := 16) (oi := ⟨_, _, _, _, _, _⟩) (v := ?_) rfl (by kernel_rfl) (by kernel_rfl) (by kernel_rfl) (fun _ _ _ h => h) (Or.inl ⟨by rfl, ?_⟩) trivial ?_
            rotate_left
            · (intro w hSw; go_simp; (try with_reducible rfl))
            try simp only [Act.put, List.setIfInBounds_toArray, List.set_cons_zero, List.set_cons_succ]
            refine wpAnyH_take (i := 17) (oi := ⟨_, _, _, _, _, _⟩) (v := ?_) rfl (by kernel_rfl) (by kernel_rfl) (by kernel_rfl) (fun _ _ _ h => h) (Or.inl ⟨by rfl, ?_⟩) trivial ?_
            rotate_left
            · (intro w hSw; go_simp; (try with_reducible rfl))
            try simp only [Act.put, List.setIfInBounds_toArray, List.set_cons_zero, List.set_cons_succ]
            refine wpAnyH_ready (rs := [18]) (by kernel_rfl) (by simp) ?_
            refine (AllReadyH.cons (o := ⟨_, _, _, _, _, _⟩) rfl (fun K hK => ?_) AllReadyH.nil)
            go_simp
            refine (works_any _).mono ?_
            rintro e w9 ⟨rfl, hb9⟩
            go_wp2_with fail
            refine hK.out _ _ trivial (fun _ => ?_)
            clear hK K
            try simp only [Act.put, List.setIfInBounds_toArray, List.set_cons_zero, List.set_cons_succ]
            refine wpAnyH_take (i := 19) (oi := ⟨_, _, _, _, _, _⟩) (v := ?_) rfl (by kernel_rfl) (by kernel_rfl) (by kernel_rfl) (fun _ _ _ h => h) (Or.inl ⟨by rfl, ?_⟩) trivial ?_
            rotate_left
            · (intro w hSw; go_simp; (try with_reducible rfl))
            try simp only [Act.put, List.setIfInBounds_toArray, List.set_cons_zero, List.set_cons_succ]
            refine wpAnyH_take (i := 20) (oi := ⟨_, _, _, _, _, _⟩) (v := ?_) rfl (by kernel_rfl) (by kernel_rfl) (by kernel_rfl) (fun _ _ _ h => h) (Or.inl ⟨by rfl, ?_⟩) trivial ?_
            rotate_left
            · (intro w hSw; go_simp; (try with_reducible rfl))
            try simp only [Act.put, List.setIfInBounds_toArray, List.set_cons_zero, List.set_cons_succ]
            refine wpAnyH_done (by kernel_rfl) ?_ _
            go_wp2
            go_ret
            exact ⟨rfl, (Hbw.out.trans (Hb18.out.mono Hbw.out.size)).trans (hb9.mono (Hbw.out.trans (Hb18.out.mono Hbw.out.size)).size)⟩
          · skip
            go_simp
            refine (HH11.out _ Hb17.out).mono ?_
            rintro e w8 ⟨sv8, rfl, ho8, hb8⟩
            have hcv8 := conv_own27 ho8
            have hcv9 := conv_own27 (HO7.out.belowAll hb8)
            have Hb18 := Lib.hid (Hb17.out.trans (hb8.mono Hb17.out.size))
            obtain ⟨A8, c8, hsv⟩ := own_shape ho8
            subst hsv
            clear ho8
            go_wp2_with fail
            refine hK.out _ _ trivial (fun _ => ?_)
            clear hK K
            try simp only [Act.put, List.setIfInBounds_toArray, List.set_cons_zero, List.set_cons_succ]
            refine wpAnyH_ready (rs := [11, 14]) (by kernel_rfl) (by simp) ?_
            refine (AllReadyH.cons (o := ⟨_, _, _, _, _, _⟩) rfl (fun K hK => ?_) (AllReadyH.cons (o := ⟨_, _, _, _, _, _⟩) rfl (fun K hK => ?_) AllReadyH.nil))
            · skip
              go_simp
              go_wp2_with fail
              refine hK.out _ _ trivial (fun _ => ?_)
              clear hK K
              try simp only [Act.put, List.setIfInBounds_toArray, List.set_cons_zero, List.set_cons_succ]
              refine wpAnyH_ready (rs := [14]) (by kernel_rfl) (by simp) ?_
              refine (AllReadyH.cons (o := ⟨_, _, _, _, _, _⟩) rfl (fun K hK => ?_) AllReadyH.nil)
              go_simp
              go_wp2_with fail
              refine hK.out _ _ trivial (fun _ => ?_)
              clear hK K
              try simp only [Act.put, List.setIfInBounds_toArray, List.set_cons_zero, List.set_cons_succ]
              refine wpAnyH_take (i := 15) (oi := ⟨_, _, _, _, _, _⟩) (v := ?_) rfl (by kernel_rfl) (by kernel_rfl) (by kernel_rfl) (fun _ _ _ h => h) (Or.inl ⟨by rfl, ?_⟩) trivial ?_
              rotate_left
              · (intro w hSw; go_simp; (try with_reducible rfl))
              try simp only [Act.put, List.setIfInBounds_toArray, List.set_cons_zero, List.set_cons_succ]
              refine wpAnyH_take (i := 16) (oi := ⟨_, _, _, _, _, _⟩) (v := ?_) rfl (by kernel_rfl) (by kernel_rfl) (by kernel_rfl) (fun _ _ _ h => h) (Or.inl ⟨by rfl, ?_⟩) trivial ?_
              rotate_left
              · (intro w hSw; go_simp; (try with_reducible rfl))
              try simp only [Act.put, List.setIfInBounds_toArray, List.set_cons_zero, List.set_cons_succ]
              refine wpAnyH_take (i := 17) (oi := ⟨_, _, _, _, _, _⟩) (v := ?_) rfl (by kernel_rfl) (by kernel_rfl) (by kernel_rfl) (fun _ _ _ h => h) (Or.inl ⟨by rfl, ?_⟩) trivial ?_
              rotate_left
              · (intro w hSw; go_simp; (try with_reducible rfl))
              try simp only [Act.put, List.setIfInBounds_toArray, List.set_cons_zero, List.set_cons_succ]
              refine wpAnyH_ready (rs := [18]) (by kernel_rfl) (by simp) ?_
              refine (AllReadyH.cons (o := ⟨_, _, _, _, _, _⟩) rfl (fun K hK => ?_) AllReadyH.nil)
              go_simp
              refine (works_any _).mono ?_
              rintro e w9 ⟨rfl, hb9⟩
              go_wp2_with fail
              refine hK.out _ _ trivial (fun _ => ?_)
              clear hK K
              try simp only [Act.put, List.setIfInBounds_toArray, List.set_cons_zero, List.set_cons_succ]
              refine wpAnyH_take (i := 19) (oi := ⟨_, _, _, _, _, _⟩) (v := ?_) rfl (by kernel_rfl) (by kernel_rfl) (by kernel_rfl) (fun _ _ _ h => h) (Or.inl ⟨by rfl, ?_⟩) trivial ?_
              rotate_left
              · (intro w hSw; go_simp; (try with_reducible rfl))
              try simp only [Act.put, List.setIfInBounds_toArray, List.set_cons_zero, List.set_cons_succ]
              refine wpAnyH_take (i := 20) (oi := ⟨_, _, _, _, _, _⟩) (v := ?_) rfl (by kernel_rfl) (by kernel_rfl) (by kernel_rfl) (fun _ _ _ h => h) (Or.inl ⟨by rfl, ?_⟩) trivial ?_
              rotate_left
              · (intro w hSw; go_simp; (try with_reducible rfl))
              try simp only [Act.put, List.setIfInBounds_toArray, List.set_cons_zero, List.set_cons_succ]
              refine wpAnyH_done (by kernel_rfl) ?_ _
              go_wp2
              go_ret
              exact ⟨rfl, (Hbw.out.trans (Hb18.out.mono Hbw.out.size)).trans (hb9.mono (Hbw.out.trans (Hb18.out.mono Hbw.out.size)).size)⟩
            · skip
              go_simp
              go_wp2_with fail
              refine hK.out _ _ trivial (fun _ => ?_)
              clear hK K
              try simp only [Act.put, List.setIfInBounds_toArray, List.set_cons_zero, List.set_cons_succ]
              refine wpAnyH_ready (rs := [11]) (by kernel_rfl) (by simp) ?_
              refine (AllReadyH.cons (o := ⟨_, _, _, _, _, _⟩) rfl (fun K hK => ?_) AllReadyH.nil)
              go_simp
              go_wp2_with fail
              refine hK.out _ _ trivial (fun _ => ?_)
              clear hK K
              try simp only [Act.put, List.setIfInBounds_toArray, List.set_cons_zero, List.set_cons_succ]
              refine wpAnyH_take (i := 15) (oi := ⟨_, _, _, _, _, _⟩) (v := ?_) rfl (by kernel_rfl) (by kernel_rfl) (by kernel_rfl) (fun _ _ _ h => h) (Or.inl ⟨by rfl, ?_⟩) trivial ?_
              rotate_left
              · (intro w hSw; go_simp; (try with_reducible rfl))
              try simp only [Act.put, List.setIfInBounds_toArray, List.set_cons_zero, List.set_cons_succ]
              refine wpAnyH_take (i := 16) (oi := ⟨_, _, _, _, _, _⟩) (v := ?_) rfl (by kernel_rfl) (by kernel_rfl) (by kernel_rfl) (fun _ _ _ h => h) (Or.inl ⟨by rfl, ?_⟩) trivial ?_
              rotate_left
              · (intro w hSw; go_simp; (try with_reducible rfl))
              try simp only [Act.put, List.setIfInBounds_toArray, List.set_cons_zero, List.set_cons_succ]
              refine wpAnyH_take (i := 17) (oi := ⟨_, _, _, _, _, _⟩) (v := ?_) rfl (by kernel_rfl) (by kernel_rfl) (by kernel_rfl) (fun _ _ _ h => h) (Or.inl ⟨by rfl, ?_⟩) trivial ?_
              rotate_left
              · (intro w hSw; go_simp; (try with_reducible rfl))
              try simp only [Act.put, List.setIfInBounds_toArray, List.set_cons_zero, List.set_cons_succ]
              refine wpAnyH_ready (rs := [18]) (by kernel_rfl) (by simp) ?_
              refine (AllReadyH.cons (o := ⟨_, _, _, _, _, _⟩) rfl (fun K hK => ?_) AllReadyH.nil)
              go_simp
              refine (works_any _).mono ?_
              rintro e w9 ⟨rfl, hb9⟩
              go_wp2_with fail
              refine hK.out _ _ trivial (fun _ => ?_)
              clear hK K
              try simp only [Act.put, List.setIfInBounds_toArray, List.set_cons_zero, List.set_cons_succ]
              refine wpAnyH_take (i := 19) (oi := ⟨_, _, _, _, _, _⟩) (v := ?_) rfl (by kernel_rfl) (by kernel_rfl) (by kernel_rfl) (fun _ _ _ h => h) (Or.inl ⟨by rfl, ?_⟩) trivial ?_
              rotate_left
              · (intro w hSw; go_simp; (try with_reducible rfl))
              try simp only [Act.put, List.setIfInBounds_toArray, List.set_cons_zero, List.set_cons_succ]
              refine wpAnyH_take (i := 20) (oi := ⟨_, _, _, _, _, _⟩) (v := ?_) rfl (by kernel_rfl) (by kernel_rfl) (by kernel_rfl) (fun _ _ _ h => h) (Or.inl ⟨by rfl, ?_⟩) trivial ?_
              rotate_left
              · (intro w hSw; go_simp; (try with_reducible rfl))
              try simp only [Act.put, List.setIfInBounds_toArray, List.set_cons_zero, List.set_cons_succ]
              refine wpAnyH_done (by kernel_rfl) ?_ _
              go_wp2
              go_ret
              exact ⟨rfl, (Hbw.out.trans (Hb18.out.mono Hbw.out.size)).trans (hb9.mono (Hbw.out.trans (Hb18.out.mono Hbw.out.size)).size)⟩
        · have h100' : 100 < M := by omega
          clear hfit
          go_wp2_with fail
          refine (works_any w2).mono ?_
          rintro e w3 ⟨rfl, hb3⟩
          go_wp2
          go_ret
          exact ⟨rfl, hb12.trans (hb3.mono hb12.size)⟩
    · have hbig' : 2147483647 < M := by omega
      go_enter Try.func6, Try.ntmps6
      go_wp2
      go_ret
      exact ⟨rfl, Below.refl _ _⟩
  · have hbig' : 2147483647 < fs.len := by omega
    go_enter Try.func6, Try.ntmps6
    go_wp2
    go_ret
    exact ⟨rfl, Below.refl _ _⟩

end Go.Proofs.Ytkcdakohmfodjaa
