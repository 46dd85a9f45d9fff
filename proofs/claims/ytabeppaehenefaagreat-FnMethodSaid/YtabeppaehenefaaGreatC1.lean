/-
  The statements' own cut of a value.
  The statements' own cut of a table.
-/
import Derived.Test.YtabeppaehenefaaGreatCuts
import Derived.Deep.RegionLaw
import Derived.Deep.DeepCutAuto
namespace Go.Proofs.YtabeppaehenefaaGreat
open Go.RowKit
attribute [local go_sem ↓] Go.wp_at_zero Go.wp_at_succ

theorem src85 (w2 : World) (k n : Int) (f : Nat) (s : Int) (t : ByteArray) (a1 : Option Addr) (n1 c1 : Nat) (a2 : Option Addr) (n2 c2 : Nat) :
    Src Tryz.prog 7 271 (.slice (some ⟨w2.heap.size, 0, none⟩) 1 1) 1 (vcells k n f s t a1 n1 c1 a2 n2 c2) (w2.alloc (.cells (vcells k n f s t a1 n1 c1 a2 n2 c2).toArray 273)) :=
  Src.ofSlice _ Tryz.underlying271 ⟨w2.heap.size, 0, none⟩ 1 1 _ rfl (by have := World.news_of_block (Blk.new w2 273 (vcells k n f s t a1 n1 c1 a2 n2 c2).toArray); simpa using this) (by intro u hu; simp at hu; rcases hu with rfl | rfl | rfl | rfl | rfl | rfl | rfl <;> rfl)

/-- the seven cells of a variable -/
theorem Blk.seven {w : World} {g : Nat} {t : TypeId} {v0 v1 v2 v3 v4 v5 v6 : Value} (h : Blk w g t #[v0, v1, v2, v3, v4, v5, v6]) :
    w.cell? ⟨g, 0, none⟩ = some v0 ∧ w.cell? ⟨g, 1, none⟩ = some v1 ∧ w.cell? ⟨g, 2, none⟩ = some v2 ∧ w.cell? ⟨g, 3, none⟩ = some v3 ∧ w.cell? ⟨g, 4, none⟩ = some v4 ∧ w.cell? ⟨g, 5, none⟩ = some v5 ∧ w.cell? ⟨g, 6, none⟩ = some v6 := by
  refine ⟨?_, ?_, ?_, ?_, ?_, ?_, ?_⟩ <;> (rw [h.cell]; rfl)

/-- a store of all seven cells -/
abbrev put7 (w : World) (g : Nat) (v0 v1 v2 v3 v4 v5 v6 : Value) : World :=
  ((((((w.setCell ⟨g, 0, none⟩ v0).setCell ⟨g, 1, none⟩ v1).setCell ⟨g, 2, none⟩ v2).setCell ⟨g, 3, none⟩ v3).setCell ⟨g, 4, none⟩ v4).setCell ⟨g, 5, none⟩ v5).setCell ⟨g, 6, none⟩ v6
theorem Blk.set7 {w : World} {g : Nat} {t : TypeId} {o0 o1 o2 o3 o4 o5 o6 : Value} (h : Blk w g t #[o0, o1, o2, o3, o4, o5, o6]) (v0 v1 v2 v3 v4 v5 v6 : Value) :
    Blk (put7 w g v0 v1 v2 v3 v4 v5 v6) g t #[v0, v1, v2, v3, v4, v5, v6] ∧ (∀ k, k ≠ g → (put7 w g v0 v1 v2 v3 v4 v5 v6).heap[k]? = w.heap[k]?) ∧ (put7 w g v0 v1 v2 v3 v4 v5 v6).heap.size = w.heap.size := by
  refine ⟨?_, ?_, ?_⟩
  · have := ((((((h.set_ 0 v0).set_ 1 v1).set_ 2 v2).set_ 3 v3).set_ 4 v4).set_ 5 v5).set_ 6 v6
    simpa using this
  · intro k hk
    unfold put7
    rw [Below.heap_setCell _ _ _ _ hk, Below.heap_setCell _ _ _ _ hk, Below.heap_setCell _ _ _ _ hk, Below.heap_setCell _ _ _ _ hk, Below.heap_setCell _ _ _ _ hk, Below.heap_setCell _ _ _ _ hk, Below.heap_setCell _ _ _ _ hk]
  · simp [World.setCell]
theorem But.set7 {w w1 : World} {S : List Nat} (h : But w w1 S) {g : Nat} (hg : g ∈ S ∨ w.heap.size ≤ g) (v0 v1 v2 v3 v4 v5 v6 : Value) : But w (put7 w1 g v0 v1 v2 v3 v4 v5 v6) S :=
  ((((((h.setCell hg v0).setCell hg v1).setCell hg v2).setCell hg v3).setCell hg v4).setCell hg v5).setCell hg v6

set_option maxRecDepth 100000 in
set_option maxHeartbeats 40000000 in
theorem value_of (d : Nat) (hd : d ≤ 10) (hrec : d = 0 ∨ (FieldsC (d - 1) ∧ ValueC (d - 1))) : ValueC d := by
  intro k n f s t ks fs a1 c1 a2 c2 xs ys p r rb w hok hR1 hV hc1 hR2 hF hc2 hp hrb hr0 hr1
  have HV := Lib.hid hV
  have HR1 := Lib.hid hR1
  have HR2 := Lib.hid hR2
  have HF := Lib.hid hF
  have HP := Lib.hid hp
  have Hrec := Lib.hid hrec
  have hok' := hok
  rw [V.ok] at hok'
  obtain ⟨ok1, ok2, ok3, ok4, ok5, ok6, ok7, ok8, ok9⟩ := hok'
  have Hok := Lib.hid hok
  have Hok6 := Lib.hid ok6
  have Hok7 := Lib.hid ok7
  clear hV hR1 hR2 hF hp hrec hok ok6 ok7
  have hts : t.size ≤ 140737488355328 := ok5
  obtain ⟨i1, hi1, hz1, hs1, hb1⟩ := info_parts info85
  go_enter Tryz.func34, Tryz.ntmps34
  go_wp2_with fail
  have hrbl := hrb.lt
  have hroom0 : Blk ((w.alloc (.cells (vcells k n f s t a1 ks.len c1 a2 fs.len c2).toArray 92)).alloc (.cells (vcells 0 0 0 0 ⟨#[]⟩ none 0 0 none 0 0).toArray 273)) rb 3 #[.int .i64 r] := (hrb.alloc _).alloc _
  have hb30 : Blk ((w.alloc (.cells (vcells k n f s t a1 ks.len c1 a2 fs.len c2).toArray 92)).alloc (.cells (vcells 0 0 0 0 ⟨#[]⟩ none 0 0 none 0 0).toArray 273)) w.heap.size 92 (vcells k n f s t a1 ks.len c1 a2 fs.len c2).toArray := (Blk.new w 92 _).alloc _
  have hb60 : Blk ((w.alloc (.cells (vcells k n f s t a1 ks.len c1 a2 fs.len c2).toArray 92)).alloc (.cells (vcells 0 0 0 0 ⟨#[]⟩ none 0 0 none 0 0).toArray 273)) (w.heap.size + 1) 273 (vcells 0 0 0 0 ⟨#[]⟩ none 0 0 none 0 0).toArray := by
    have := Blk.new (w.alloc (.cells (vcells k n f s t a1 ks.len c1 a2 fs.len c2).toArray 92)) 273 (vcells 0 0 0 0 ⟨#[]⟩ none 0 0 none 0 0).toArray; simpa using this
  have hbut0 : But w ((w.alloc (.cells (vcells k n f s t a1 ks.len c1 a2 fs.len c2).toArray 92)).alloc (.cells (vcells 0 0 0 0 ⟨#[]⟩ none 0 0 none 0 0).toArray 273)) [rb] := ((But.refl w _).alloc _).alloc _
  have hsz0 : ((w.alloc (.cells (vcells k n f s t a1 ks.len c1 a2 fs.len c2).toArray 92)).alloc (.cells (vcells 0 0 0 0 ⟨#[]⟩ none 0 0 none 0 0).toArray 273)).heap.size = w.heap.size + 2 := by simp
  generalize ((w.alloc (.cells (vcells k n f s t a1 ks.len c1 a2 fs.len c2).toArray 92)).alloc (.cells (vcells 0 0 0 0 ⟨#[]⟩ none 0 0 none 0 0).toArray 273)) = wx at hroom0 hb30 hb60 hbut0 hsz0 ⊢
  have q0 := hroom0.cell0
  have q1 := hroom0.frozen 0
  obtain ⟨g0, g1, g2, g3, g4, g5, g6⟩ := hb30.seven
  go_region
  clear q0 q1 g0 g1 g2 g3 g4 g5 g6
  have hroom1 : Blk (wx.setCell ⟨rb, 0, none⟩ (.int .i64 (r - (1 + t.size)))).drew rb 3 #[.int .i64 (r - (1 + t.size))] := by
    have := (hroom0.set_ 0 (.int .i64 (r - (1 + t.size)))).drew; simpa using this
  have hb31 : Blk (wx.setCell ⟨rb, 0, none⟩ (.int .i64 (r - (1 + t.size)))).drew w.heap.size 92 (vcells k n f s t a1 ks.len c1 a2 fs.len c2).toArray := (hb30.far (by simp; omega) _).drew
  have hb61 : Blk (wx.setCell ⟨rb, 0, none⟩ (.int .i64 (r - (1 + t.size)))).drew (w.heap.size + 1) 273 (vcells 0 0 0 0 ⟨#[]⟩ none 0 0 none 0 0).toArray := (hb60.far (by simp; omega) _).drew
  have hbut1 : But w (wx.setCell ⟨rb, 0, none⟩ (.int .i64 (r - (1 + t.size)))).drew [rb] := (hbut0.setCell (.inl (by simp)) _).drew
  have hsz1 : (wx.setCell ⟨rb, 0, none⟩ (.int .i64 (r - (1 + t.size)))).drew.heap.size = w.heap.size + 2 := by simp [World.setCell, hsz0]
  clear hroom0 hb30 hb60 hbut0 hsz0
  generalize (wx.setCell ⟨rb, 0, none⟩ (.int .i64 (r - (1 + t.size)))).drew = wy at hroom1 hb31 hb61 hbut1 hsz1 ⊢
  obtain ⟨r1, hr1e⟩ : ∃ r1, r1 = r - (1 + (t.size : Int)) := ⟨_, rfl⟩
  rw [← hr1e] at hroom1 ⊢
  have Hr1 := Lib.hid hr1e
  have hrb1 : -281474976710657 ≤ r1 ∧ r1 ≤ 200000 := by omega
  obtain ⟨hrb1, hrb2⟩ := hrb1
  clear hr1e
  have q0 := hroom1.cell0
  by_cases hstop : r1 < 0 ∨ d = 0
  · have hcut : (V.mk k n f s t ks fs).cut d r = (zeroV, r1) := by rw [V.cut, ← Hr1.out, if_pos hstop]
    obtain ⟨e0, e1, e2⟩ := hb61.set7 (.int .u8 0) (.int .i64 0) (.float .f64 0) (.int .i64 0) (.string ⟨#[]⟩) (.slice none 0 0) (.slice none 0 0)
    have e3 := hbut1.set7 (g := w.heap.size + 1) (.inr (by omega)) (.int .u8 0) (.int .i64 0) (.float .f64 0) (.int .i64 0) (.string ⟨#[]⟩) (.slice none 0 0) (.slice none 0 0)
    have e4 : Blk (put7 wy (w.heap.size + 1) (.int .u8 0) (.int .i64 0) (.float .f64 0) (.int .i64 0) (.string ⟨#[]⟩) (.slice none 0 0) (.slice none 0 0)) rb 3 #[.int .i64 r1] := (e1 rb (by omega)).trans hroom1
    have hpost : ∃ rc, Ending.returned (.agg (vcells 0 0 0 0 ⟨#[]⟩ none 0 0 none 0 0).toArray) = Ending.returned (.agg rc.toArray) ∧
        RdV (put7 wy (w.heap.size + 1) (.int .u8 0) (.int .i64 0) (.float .f64 0) (.int .i64 0) (.string ⟨#[]⟩) (.slice none 0 0) (.slice none 0 0)) (New w (put7 wy (w.heap.size + 1) (.int .u8 0) (.int .i64 0) (.float .f64 0) (.int .i64 0) (.string ⟨#[]⟩) (.slice none 0 0) (.slice none 0 0))) ((V.mk k n f s t ks fs).cut d r).1 rc ∧
        Blk (put7 wy (w.heap.size + 1) (.int .u8 0) (.int .i64 0) (.float .f64 0) (.int .i64 0) (.string ⟨#[]⟩) (.slice none 0 0) (.slice none 0 0)) rb 3 #[.int .i64 ((V.mk k n f s t ks fs).cut d r).2] ∧ But w (put7 wy (w.heap.size + 1) (.int .u8 0) (.int .i64 0) (.float .f64 0) (.int .i64 0) (.string ⟨#[]⟩) (.slice none 0 0) (.slice none 0 0)) [rb] := by
      rw [hcut]
      refine ⟨vcells 0 0 0 0 ⟨#[]⟩ none 0 0 none 0 0, rfl, ?_, e4, e3⟩
      rw [RdV]
      exact ⟨none, 0, none, 0, [], [], rfl, fun h => absurd rfl h, by rw [VsC], Nat.le_refl _, fun h => absurd rfl h, by rw [FsC], Nat.le_refl _⟩
    have HPost := Lib.hid hpost
    clear hcut hpost e1 e3 e4
    obtain ⟨g0, g1, g2, g3, g4, g5, g6⟩ := hb61.seven
    obtain ⟨j0, j1, j2, j3, j4, j5, j6⟩ := e0.seven
    clear e0
    have fz := fun i => hb61.frozen i
    by_cases hneg : r1 < 0
    · go_wp2
      exact bodyPost_ret (v := .agg (vcells 0 0 0 0 ⟨#[]⟩ none 0 0 none 0 0).toArray) (by simp [results, Tryz.results34, go_sem, j0, j1, j2, j3, j4, j5, j6]) rfl HPost.out
    · have hd0 : d = 0 := by omega
      subst hd0
      go_wp2
      exact bodyPost_ret (v := .agg (vcells 0 0 0 0 ⟨#[]⟩ none 0 0 none 0 0).toArray) (by simp [results, Tryz.results34, go_sem, j0, j1, j2, j3, j4, j5, j6]) rfl HPost.out
  · obtain ⟨e, rfl⟩ : ∃ e, d = e + 1 := ⟨d - 1, by omega⟩
    have hrec2 : FieldsC e ∧ ValueC e := by
      rcases Hrec.out with h | h
      · omega
      · simpa using h
    have HFC := Lib.hid hrec2.1
    have HVC := Lib.hid hrec2.2
    have hr10 : 0 ≤ r1 := by omega
    have hcut : (V.mk k n f s t ks fs).cut (e + 1) r = match fs.cutO e r1 with
        | (fs', r2) =>
          match ks.cut e r2 with
          | (some ks', r3) => (.mk k n f s t ks' (fs'.getD oneF), r3)
          | (none, r3) => (zeroV, r3) := by
      rw [V.cut, ← Hr1.out, if_neg hstop]
      rfl
    have Hcut := Lib.hid hcut
    clear hcut hrec2 Hrec
    have hpk : ∀ g, p g → g < wy.heap.size ∧ g ≠ rb := fun g hg => ⟨by have := (HP.out g hg).1; omega, (HP.out g hg).2⟩
    have hkeep : ∀ g, p g → wy.heap[g]? = w.heap[g]? := fun g hg => hbut1.block g (HP.out g hg).1 (by simpa using (HP.out g hg).2)
    have hcall : ∀ wz, But wy wz [] → Calls Tryz.prog 24 #[.slice a2 fs.len c2, .int .i64 e, .pointer (some ⟨rb, 0, none⟩)] wz fun e' w2 => ∃ A' c' ys', e' = .returned (.slice A' (fs.cut e r1).len c') ∧
        Rd w2 (New wz w2) A' ys' ∧ FsC w2 (New wz w2) (fs.cut e r1) ys' ∧ (fs.cut e r1).len ≤ c' ∧ Blk w2 rb 3 #[.int .i64 (fs.cutO e r1).2] ∧ But wz w2 [rb] ∧ But w w2 [rb] ∧
        Blk w2 w.heap.size 92 (vcells k n f s t a1 ks.len c1 a2 fs.len c2).toArray ∧ Blk w2 (w.heap.size + 1) 273 (vcells 0 0 0 0 ⟨#[]⟩ none 0 0 none 0 0).toArray := by
      intro wz hz
      have hkz : ∀ g, p g → wz.heap[g]? = w.heap[g]? := fun g hg => (hz.block g (hpk g hg).1 (by simp)).trans (hkeep g hg)
      refine (HFC.out fs a2 c2 ys p r1 rb wz Hok7.out ok9 (HR2.out.keep hkz) (HF.out.keep hkz) hc2 (fun g hg => ⟨Nat.lt_of_lt_of_le (hpk g hg).1 hz.size, (hpk g hg).2⟩) (hz.blk hroom1 (by simp)) hr10 hrb2).mono ?_
      rintro e' w2 ⟨A', c', ys', rfl, z1, z2, z3, z4, z5⟩
      have hww : But wy w2 [rb] := (hz.more (by simp)).trans z5
      exact ⟨A', c', ys', rfl, z1, z2, z3, z4, z5, hbut1.trans hww, hww.blk hb31 (by simp; omega), hww.blk hb61 (by simp; omega)⟩
    have HCall := Lib.hid hcall
    clear hcall
    have hdd : ¬ ((e : Int) + 1 = 0) := by omega
    have hwe : IntKind.i64.wrap (e : Int) = (e : Int) := by
      have : (e : Int) % 18446744073709551616 = e := Int.emod_eq_of_lt (by omega) (by omega)
      simp [IntKind.wrap, IntKind.bits, IntKind.signed, this]
      omega
    obtain ⟨g0, g1, g2, g3, g4, g5, g6⟩ := hb31.seven
    have hne1 : ¬ r1 < 0 := by omega
    have hnw : ¬ (w.heap.size = wy.heap.size) := by omega
    have hnw' : ¬ (wy.heap.size = w.heap.size) := by omega
    have Hsz1 := Lib.hid hsz1
    clear hsz1
    go_upto_region 4 with fail
    go_cut [7] (fun s7 wx => ∃ (B7 : Nat) (A' : Option Addr) (c' : Nat) (ys' : List Value), s7 = .pointer (some ⟨B7, 0, none⟩) ∧ Blk wx B7 273 (vcells k n f s t none 0 0 A' (fs.cut e r1).len c').toArray ∧ w.heap.size + 1 < B7 ∧
      Rd wx (fun g => New w wx g ∧ g ≠ B7 ∧ g ≠ w.heap.size + 1) A' ys' ∧ FsC wx (fun g => New w wx g ∧ g ≠ B7 ∧ g ≠ w.heap.size + 1) (fs.cut e r1) ys' ∧ (fs.cut e r1).len ≤ c' ∧ Blk wx rb 3 #[.int .i64 (fs.cutO e r1).2] ∧ But w wx [rb] ∧
      Blk wx (w.heap.size + 1) 273 (vcells 0 0 0 0 ⟨#[]⟩ none 0 0 none 0 0).toArray ∧ Blk wx w.heap.size 92 (vcells k n f s t a1 ks.len c1 a2 fs.len c2).toArray)
    case first =>
      go_region_held3 (fun w' => w'.cell? ⟨w.heap.size, 0, none⟩ = some (.int .u8 k) ∧ w'.cell? ⟨w.heap.size, 1, none⟩ = some (.int .i64 n) ∧ w'.cell? ⟨w.heap.size, 2, none⟩ = some (.float .f64 f) ∧ w'.cell? ⟨w.heap.size, 3, none⟩ = some (.int .i64 s) ∧ w'.cell? ⟨w.heap.size, 4, none⟩ = some (.string t) ∧ w'.cell? ⟨w.heap.size, 6, none⟩ = some (.slice a2 fs.len c2))
        (go_keep)
        (first
          | (go_at_call 24; refine (HCall.out wy.drew (But.refl _ _).drew).mono ?_; rintro e' w2 ⟨A', c', ys', rfl, z1, z2, z3, z4, z5, z6, z7, z8⟩
             obtain ⟨i0, i1, i2, i3, i4, i5, i6⟩ := z7.seven
             have HZ2 := Lib.hid z2
             clear z2)
          | (go_at_call 24; refine (HCall.out (wy.drew.alloc (.cells (vcells 0 0 0 0 ⟨#[]⟩ none 0 0 none 0 0).toArray 273)) ((But.refl _ _).drew.alloc _)).mono ?_; rintro e' w2 ⟨A', c', ys', rfl, z1, z2, z3, z4, z5, z6, z7, z8⟩
             obtain ⟨i0, i1, i2, i3, i4, i5, i6⟩ := z7.seven
             have hq : Blk w2 wy.heap.size 273 (vcells 0 0 0 0 ⟨#[]⟩ none 0 0 none 0 0).toArray := z5.blk (Blk.new wy.drew 273 (vcells 0 0 0 0 ⟨#[]⟩ none 0 0 none 0 0).toArray) (by have := Hsz1.out; simp; omega)
             have fz := fun i => hq.frozen i
             obtain ⟨l0, l1, l2, l3, l4, l5, l6⟩ := hq.seven
             have hq7 := hq.set7 (.int .u8 k) (.int .i64 n) (.float .f64 f) (.int .i64 s) (.string t) (.slice none 0 0) (.slice A' (fs.cut e r1).len c')
             have Hq7 := Lib.hid hq7
             clear hq7
             have HZ2 := Lib.hid z2
             clear z2))
      · go_wp2_with fail
        go_meet
        have hs6 := z6.size
        have hs5 := z5.size
        simp at hs5
        have hsy := Hsz1.out
        have hq : ∀ g, New wy.drew w2 g → New w (w2.alloc (.cells (vcells k n f s t none 0 0 A' (fs.cut e r1).len c').toArray 273)) g ∧ g ≠ w2.heap.size ∧ g ≠ w.heap.size + 1 := by
          rintro g ⟨h1, h2⟩
          simp at h1
          refine ⟨⟨by omega, by simp; omega⟩, by omega, by omega⟩
        exact ⟨w2.heap.size, A', c', ys', rfl, Blk.new w2 273 _, by omega, (z1.keep fun g hg => Below.heap_alloc _ _ _ hg.2).more hq, (HZ2.out.keep fun g hg => Below.heap_alloc _ _ _ hg.2).more hq, z3, z4.alloc _, z6.alloc _, z8.alloc _, z7.alloc _⟩
      · go_wp2_with fail
        go_meet
        have hs6 := z6.size
        have hs5 := z5.size
        simp at hs5
        have hsy := Hsz1.out
        obtain ⟨y1, y2, y3⟩ := Hq7.out
        have hq : ∀ g, New (wy.drew.alloc (.cells (vcells 0 0 0 0 ⟨#[]⟩ none 0 0 none 0 0).toArray 273)) w2 g → New w (put7 w2 wy.heap.size (.int .u8 k) (.int .i64 n) (.float .f64 f) (.int .i64 s) (.string t) (.slice none 0 0) (.slice A' (fs.cut e r1).len c')) g ∧ g ≠ wy.heap.size ∧ g ≠ w.heap.size + 1 := by
          rintro g ⟨h1, h2⟩
          simp at h1
          refine ⟨⟨by omega, by rw [y3]; omega⟩, by omega, by omega⟩
        exact ⟨wy.heap.size, A', c', ys', rfl, y1, by omega, (z1.keep fun g hg => y2 g (by have := hg.1; simp at this; omega)).more hq, (HZ2.out.keep fun g hg => y2 g (by have := hg.1; simp at this; omega)).more hq, z3, (y2 rb (by omega)).trans z4, z6.set7 (.inr (by omega)) _ _ _ _ _ _ _, (y2 _ (by omega)).trans z8, (y2 _ (by omega)).trans z7⟩
    case rest =>
      obtain ⟨B7, A', c', ys', rfl, z1, z2, z3, z4, z5, z6, z7, z8, z9⟩ := hcut
      obtain ⟨m0, m1, m2, m3, m4, m5, m6⟩ := z9.seven
      have hdec := Fs.cut_dec fs e r1
      have hlow := (Fs.cut_ok fs e r1 Hok7.out hrb2).2.2 hr10
      obtain ⟨r2, hr2⟩ : ∃ r2, r2 = (fs.cutO e r1).2 := ⟨_, rfl⟩
      rw [← hr2] at z6 hdec hlow
      have Hr2 := Lib.hid hr2
      have HZ3 := Lib.hid z3
      have HZ4 := Lib.hid z4
      clear hr2 z3 z4 hnw hnw' g0 g1 g2 g3 g4 g5 g6
      have hsy := Hsz1.out
      have hks0 : (0 : Int) ≤ (ks.len : Int) := by omega
      go_wp2_with fail
      go_loopw [48] (fun i wr => ∃ (j : Nat) (acc rest : Vs) (ρ : Int) (cs : List Value) (sv : Value), i = .int .i64 j ∧ acc.len = j ∧ rest.len + j = ks.len ∧ rest.ok ∧ -562949953421312 ≤ ρ ∧ j + ρ ≤ 200000 ∧ acc.join (rest.cut e ρ) = ks.cut e r2 ∧ VsC w p rest (xs.drop (j * 7)) ∧
        Blk wr B7 273 #[.int .u8 k, .int .i64 n, .float .f64 f, .int .i64 s, .string t, sv, .slice A' (fs.cut e r1).len c'] ∧ wr.ownsRow w.heap.size 273 7 sv j cs ∧ some B7 ≠ sv.ownBlock ∧ some (w.heap.size + 1) ≠ sv.ownBlock ∧
        VsC wr (fun g => New w wr g ∧ some g ≠ sv.ownBlock ∧ g ≠ B7 ∧ g ≠ w.heap.size + 1) acc cs ∧
        Rd wr (fun g => New w wr g ∧ some g ≠ sv.ownBlock ∧ g ≠ B7 ∧ g ≠ w.heap.size + 1) A' ys' ∧ FsC wr (fun g => New w wr g ∧ some g ≠ sv.ownBlock ∧ g ≠ B7 ∧ g ≠ w.heap.size + 1) (fs.cut e r1) ys' ∧
        Blk wr rb 3 #[.int .i64 ρ] ∧ But w wr [rb] ∧ Blk wr (w.heap.size + 1) 273 (vcells 0 0 0 0 ⟨#[]⟩ none 0 0 none 0 0).toArray) (fun i _ => ks.len - (intOf i).toNat)
      case atStart =>
        refine ⟨0, .nil, ks, r2, [], .slice none 0 0, rfl, rfl, rfl, Hok6.out, hlow, by omega, Vs.join_nil _, by simpa using HV.out, z1, World.ownsRow_nil _ _ _ _, by simp [Value.ownBlock], by simp [Value.ownBlock], by rw [VsC], HZ3.out.more ?_, HZ4.out.more ?_, z6, z7, z8⟩
        · rintro g ⟨h1, h2, h3⟩
          exact ⟨h1, by simp [Value.ownBlock], h2, h3⟩
        · rintro g ⟨h1, h2, h3⟩
          exact ⟨h1, by simp [Value.ownBlock], h2, h3⟩
      case round =>
        obtain ⟨j, acc, rest, ρ, cs, sv, rfl, hacc, hrest, hrok, hρ0, hρ1, hjoin, hrV, hb7, hown, hnb7, hnb6, hcs, hrd, hfsc, hroom, hbut, hb6⟩ := hrel
        have HJ := Lib.hid hjoin
        have HC := Lib.hid hcs
        have HRD := Lib.hid hrd
        have HFS := Lib.hid hfsc
        have hbsz := hbut.size
        clear hjoin hcs hrd hfsc z1 z6 z7 z8 z9 m0 m1 m2 m3 m4 m5 m6 q0 HZ3 HZ4
        cases rest with
        | nil =>
          rw [Vs.len] at hrest
          have hjk : j = ks.len := by omega
          clear hrest
          subst hjk
          obtain ⟨A6, c6, rfl⟩ := own_shape hown
          obtain ⟨b0, b1, b2, b3, b4, b5, b6⟩ := hb7.seven
          obtain ⟨d0, d1, d2, d3, d4, d5, d6⟩ := hb6.seven
          have fz := fun i => hb6.frozen i
          obtain ⟨x0, x1, x2⟩ := hb6.set7 (.int .u8 k) (.int .i64 n) (.float .f64 f) (.int .i64 s) (.string t) (.slice A6 ks.len c6) (.slice A' (fs.cut e r1).len c')
          have x3 := hbut.set7 (g := w.heap.size + 1) (.inr (by omega)) (.int .u8 k) (.int .i64 n) (.float .f64 f) (.int .i64 s) (.string t) (.slice A6 ks.len c6) (.slice A' (fs.cut e r1).len c')
          have hpost : ∃ rc, Ending.returned (.agg (vcells k n f s t A6 ks.len c6 A' (fs.cut e r1).len c').toArray) = Ending.returned (.agg rc.toArray) ∧
              RdV (put7 wr (w.heap.size + 1) (.int .u8 k) (.int .i64 n) (.float .f64 f) (.int .i64 s) (.string t) (.slice A6 ks.len c6) (.slice A' (fs.cut e r1).len c')) (New w (put7 wr (w.heap.size + 1) (.int .u8 k) (.int .i64 n) (.float .f64 f) (.int .i64 s) (.string t) (.slice A6 ks.len c6) (.slice A' (fs.cut e r1).len c'))) ((V.mk k n f s t ks fs).cut (e + 1) r).1 rc ∧
              Blk (put7 wr (w.heap.size + 1) (.int .u8 k) (.int .i64 n) (.float .f64 f) (.int .i64 s) (.string t) (.slice A6 ks.len c6) (.slice A' (fs.cut e r1).len c')) rb 3 #[.int .i64 ((V.mk k n f s t ks fs).cut (e + 1) r).2] ∧
              But w (put7 wr (w.heap.size + 1) (.int .u8 k) (.int .i64 n) (.float .f64 f) (.int .i64 s) (.string t) (.slice A6 ks.len c6) (.slice A' (fs.cut e r1).len c')) [rb] := by
            have hcc : (V.mk k n f s t ks fs).cut (e + 1) r = (.mk k n f s t acc (fs.cut e r1), ρ) := by
              rw [Hcut.out]
              unfold Fs.cut
              have h2 := Hr2.out
              generalize fs.cutO e r1 = cf at h2 ⊢
              obtain ⟨fo, ro⟩ := cf
              simp only at h2
              subst h2
              simp only
              rw [← HJ.out, Vs.cut, Vs.join, Vs.app_nil]
            rw [hcc]
            refine ⟨vcells k n f s t A6 ks.len c6 A' (fs.cut e r1).len c', rfl, ?_, (x1 rb (by omega)).trans hroom, x3⟩
            have hmore : ∀ g, New w wr g ∧ some g ≠ (Value.slice A6 ks.len c6).ownBlock ∧ g ≠ B7 ∧ g ≠ w.heap.size + 1 → New w (put7 wr (w.heap.size + 1) (.int .u8 k) (.int .i64 n) (.float .f64 f) (.int .i64 s) (.string t) (.slice A6 ks.len c6) (.slice A' (fs.cut e r1).len c')) g := by
              rintro g ⟨⟨h1, h2⟩, _⟩
              exact ⟨h1, by rw [x2]; exact h2⟩
            obtain ⟨y1, y2⟩ := Rd.of_own (p := fun g => New w wr g ∧ g ≠ w.heap.size + 1) hown (fun g hg h1 h2 => ⟨⟨h1, h2⟩, fun e => hnb6 (by rw [hg, e])⟩)
            rw [RdV]
            refine ⟨A6, c6, A', c', cs, ys', by rw [hacc], (y1.keep fun g hg => x1 g hg.2).more ?_, (HC.out.keep fun g hg => x1 g hg.2.2.2).more hmore, by omega, (HRD.out.keep fun g hg => x1 g hg.2.2.2).more hmore, (HFS.out.keep fun g hg => x1 g hg.2.2.2).more hmore, z5⟩
            rintro g ⟨⟨h1, h2⟩, _⟩
            exact ⟨h1, by rw [x2]; exact h2⟩
          have HPost := Lib.hid hpost
          obtain ⟨j0, j1, j2, j3, j4, j5, j6⟩ := x0.seven
          clear hpost x0 x1 x2 x3 hacc
          go_wp2
          exact bodyPost_ret (v := .agg (vcells k n f s t A6 ks.len c6 A' (fs.cut e r1).len c').toArray) (by simp [results, Tryz.results34, go_sem, j0, j1, j2, j3, j4, j5, j6]) rfl HPost.out
        | cons v q =>
          obtain ⟨vk, vn, vf, vs, vt, vks, vfs⟩ := v
          rw [Vs.len] at hrest
          obtain ⟨b, off, a1', c1', a2', c2', xs', zs', rfl, hpb, e0, e1, e2, e3, e4, e5, e6, x1, x2, x3, x4, x5, x6, x7⟩ := VsC.at_ HR1.out hrV
          have hkeepr : ∀ g, p g → wr.heap[g]? = w.heap[g]? := fun g hg => hbut.block g (HP.out g hg).1 (by simpa using (HP.out g hg).2)
          have hb' := hkeepr b hpb
          rw [← World.cell?_of_block (w := w) (w' := wr) (a := ⟨b, off + j * 7, none⟩) hb'] at e0
          rw [← World.cell?_of_block (w := w) (w' := wr) (a := ⟨b, off + j * 7 + 1, none⟩) hb'] at e1
          rw [← World.cell?_of_block (w := w) (w' := wr) (a := ⟨b, off + j * 7 + 2, none⟩) hb'] at e2
          rw [← World.cell?_of_block (w := w) (w' := wr) (a := ⟨b, off + j * 7 + 3, none⟩) hb'] at e3
          rw [← World.cell?_of_block (w := w) (w' := wr) (a := ⟨b, off + j * 7 + 4, none⟩) hb'] at e4
          rw [← World.cell?_of_block (w := w) (w' := wr) (a := ⟨b, off + j * 7 + 5, none⟩) hb'] at e5
          rw [← World.cell?_of_block (w := w) (w' := wr) (a := ⟨b, off + j * 7 + 6, none⟩) hb'] at e6
          have hk0 : (0 : Int) ≤ (j : Int) := by omega
          have hk1 : (j : Int) < (ks.len : Int) := by omega
          rw [Vs.ok] at hrok
          obtain ⟨o2, o3⟩ := hrok
          go_upto_region 8 with fail
          have hroom1 := hroom.alloc (.cells (vcells vk vn vf vs vt a1' vks.len c1' a2' vfs.len c2').toArray 92)
          have hx1 := Blk.new wr 92 (vcells vk vn vf vs vt a1' vks.len c1' a2' vfs.len c2').toArray
          have hown1 := hown.alloc (.cells (vcells vk vn vf vs vt a1' vks.len c1' a2' vfs.len c2').toArray 92)
          have hbut1 := hbut.alloc (.cells (vcells vk vn vf vs vt a1' vks.len c1' a2' vfs.len c2').toArray 92)
          have hb71 := hb7.alloc (.cells (vcells vk vn vf vs vt a1' vks.len c1' a2' vfs.len c2').toArray 92)
          have hb61 := hb6.alloc (.cells (vcells vk vn vf vs vt a1' vks.len c1' a2' vfs.len c2').toArray 92)
          have hheap1 : ∀ g, g < wr.heap.size → (wr.alloc (.cells (vcells vk vn vf vs vt a1' vks.len c1' a2' vfs.len c2').toArray 92)).heap[g]? = wr.heap[g]? := fun g hg => Below.heap_alloc _ _ _ hg
          have hsz1 : (wr.alloc (.cells (vcells vk vn vf vs vt a1' vks.len c1' a2' vfs.len c2').toArray 92)).heap.size = wr.heap.size + 1 := by simp
          have hrow1 : ∀ g, sv.ownBlock = some g → w.heap.size ≤ g ∧ g < wr.heap.size := fun g hg => hown.lt g hg
          have hb7lt := hb7.lt
          have hX7 : ¬ (wr.heap.size = B7) := by omega
          have hX7' : ¬ (B7 = wr.heap.size) := by omega
          have hHX := Lib.hid hheap1
          have Hsz2 := Lib.hid hsz1
          clear hheap1 hsz1 e0 e1 e2 e3 e4 e5 e6
          generalize hwX : wr.alloc (.cells (vcells vk vn vf vs vt a1' vks.len c1' a2' vfs.len c2').toArray 92) = wX at hroom1 hx1 hown1 hbut1 hb71 hb61 hHX Hsz2 ⊢
          clear hwX
          have q0 := hroom1.cell0
          by_cases hneg : ρ < 0
          · have hcc : (V.mk k n f s t ks fs).cut (e + 1) r = (zeroV, ρ) := by
              rw [Hcut.out]
              have h2 := Hr2.out
              generalize fs.cutO e r1 = cf at h2 ⊢
              obtain ⟨fo, ro⟩ := cf
              simp only at h2
              subst h2
              simp only
              rw [← HJ.out, Vs.join_stop acc _ q e ρ hneg]
            obtain ⟨y1, y2, y3⟩ := hb61.set7 (.int .u8 0) (.int .i64 0) (.float .f64 0) (.int .i64 0) (.string ⟨#[]⟩) (.slice none 0 0) (.slice none 0 0)
            have y4 := hbut1.set7 (g := w.heap.size + 1) (.inr (by omega)) (.int .u8 0) (.int .i64 0) (.float .f64 0) (.int .i64 0) (.string ⟨#[]⟩) (.slice none 0 0) (.slice none 0 0)
            have hpost : ∃ rc, Ending.returned (.agg (vcells 0 0 0 0 ⟨#[]⟩ none 0 0 none 0 0).toArray) = Ending.returned (.agg rc.toArray) ∧
                RdV (put7 wX (w.heap.size + 1) (.int .u8 0) (.int .i64 0) (.float .f64 0) (.int .i64 0) (.string ⟨#[]⟩) (.slice none 0 0) (.slice none 0 0)) (New w (put7 wX (w.heap.size + 1) (.int .u8 0) (.int .i64 0) (.float .f64 0) (.int .i64 0) (.string ⟨#[]⟩) (.slice none 0 0) (.slice none 0 0))) ((V.mk k n f s t ks fs).cut (e + 1) r).1 rc ∧
                Blk (put7 wX (w.heap.size + 1) (.int .u8 0) (.int .i64 0) (.float .f64 0) (.int .i64 0) (.string ⟨#[]⟩) (.slice none 0 0) (.slice none 0 0)) rb 3 #[.int .i64 ((V.mk k n f s t ks fs).cut (e + 1) r).2] ∧ But w (put7 wX (w.heap.size + 1) (.int .u8 0) (.int .i64 0) (.float .f64 0) (.int .i64 0) (.string ⟨#[]⟩) (.slice none 0 0) (.slice none 0 0)) [rb] := by
              rw [hcc]
              refine ⟨vcells 0 0 0 0 ⟨#[]⟩ none 0 0 none 0 0, rfl, ?_, (y2 rb (by omega)).trans hroom1, y4⟩
              rw [RdV]
              exact ⟨none, 0, none, 0, [], [], rfl, fun h => absurd rfl h, by rw [VsC], Nat.le_refl _, fun h => absurd rfl h, by rw [FsC], Nat.le_refl _⟩
            have HPost := Lib.hid hpost
            obtain ⟨j0, j1, j2, j3, j4, j5, j6⟩ := y1.seven
            obtain ⟨g0, g1, g2, g3, g4, g5, g6⟩ := hb61.seven
            have fz := fun i => hb61.frozen i
            clear hcc hpost y1 y2 y3 y4
            go_wp2
            exact bodyPost_ret (v := .agg (vcells 0 0 0 0 ⟨#[]⟩ none 0 0 none 0 0).toArray) (by simp [results, Tryz.results34, go_sem, j0, j1, j2, j3, j4, j5, j6]) rfl HPost.out
          · have hkX : ∀ g, p g → wX.heap[g]? = w.heap[g]? := fun g hg => hbut1.block g (HP.out g hg).1 (by simpa using (HP.out g hg).2)
            have hcall := HVC.out vk vn vf vs vt vks vfs a1' c1' a2' c2' xs' zs' p ρ rb wX.drew o2 (x1.keep (w1 := wX.drew) hkX) (x2.keep (w1 := wX.drew) hkX) x3 (x4.keep (w1 := wX.drew) hkX) (x5.keep (w1 := wX.drew) hkX) x6
              (fun g hg => ⟨by have := (HP.out g hg).1; have := hbut1.size; show g < wX.heap.size; omega, (HP.out g hg).2⟩) hroom1.drew (by omega) (by omega)
            have hcall2 : Calls Tryz.prog 34 #[.agg (vcells vk vn vf vs vt a1' vks.len c1' a2' vfs.len c2').toArray, .int .i64 e, .pointer (some ⟨rb, 0, none⟩)] wX.drew fun e' w2 =>
                ∃ k' n' f' s' t' ks' fs' ρ1 a1'' c1'' a2'' c2'' xs'' ys'', e' = .returned (.agg (vcells k' n' f' s' t' a1'' (Vs.len ks') c1'' a2'' (Fs.len fs') c2'').toArray) ∧ (V.mk vk vn vf vs vt vks vfs).cut e ρ = (.mk k' n' f' s' t' ks' fs', ρ1) ∧
                  Rd w2 (New wX w2) a1'' xs'' ∧ VsC w2 (New wX w2) ks' xs'' ∧ Vs.len ks' ≤ c1'' ∧ Rd w2 (New wX w2) a2'' ys'' ∧ FsC w2 (New wX w2) fs' ys'' ∧ Fs.len fs' ≤ c2'' ∧ Blk w2 rb 3 #[.int .i64 ρ1] ∧ But wX w2 [rb] ∧
                  Blk w2 wr.heap.size 92 (vcells vk vn vf vs vt a1' vks.len c1' a2' vfs.len c2').toArray ∧ w2.ownsRow w.heap.size 273 7 sv j cs ∧ Blk w2 B7 273 #[.int .u8 k, .int .i64 n, .float .f64 f, .int .i64 s, .string t, sv, .slice A' (fs.cut e r1).len c'] := by
              refine hcall.mono ?_
              rintro e' w2 ⟨rc, rfl, hrd, hroom3, hbut3⟩
              have hbut3' : But wX w2 [rb] := ⟨hbut3.os, hbut3.tape, hbut3.output, hbut3.size, hbut3.block⟩
              have hx3 := hbut3'.blk hx1 (by simp; omega)
              have hown3 : w2.ownsRow w.heap.size 273 7 sv j cs := own_keep hown1 fun g hg => hbut3'.block g (hown1.lt g hg).2 (by have := (hown1.lt g hg).1; simp; omega)
              have hb73 := hbut3'.blk hb71 (by simp; omega)
              generalize (V.mk vk vn vf vs vt vks vfs).cut e ρ = cv at hrd hroom3 ⊢
              obtain ⟨⟨k', n', f', s', t', ks', fs'⟩, ρ1⟩ := cv
              rw [RdV] at hrd
              obtain ⟨a1'', c1'', a2'', c2'', xs'', ys'', rfl, z1, z2, z3, z4, z5, z6⟩ := hrd
              exact ⟨k', n', f', s', t', ks', fs', ρ1, a1'', c1'', a2'', c2'', xs'', ys'', rfl, rfl, z1, z2, z3, z4, z5, z6, hroom3, hbut3', hx3, hown3, hb73⟩
            have HCall2 := Lib.hid hcall2
            clear hcall hcall2 hkX x1 x2 x4 x5 hkeepr
            obtain ⟨y0, y1, y2, y3, y4, y5, y6⟩ := hx1.seven
            have yb := hb71.seven.2.2.2.2.2.1
            go_upto_region 10 with fail
            go_region_law (first
              | (go_simp; go_at_call 34; refine HCall2.out.mono ?_; rintro e' w2 ⟨k', n', f', s', t', ks', fs', ρ1, a1'', c1'', a2'', c2'', xs'', ys'', rfl, hcv, z1, z2, z3, z4, z5', z6, hroom3, hbut3, hx3, hown3, hb73⟩
                 have yb3 := hb73.seven.2.2.2.2.2.1
                 have yb3a := fun o => (hb73.alloc o).seven.2.2.2.2.2.1
                 obtain ⟨v0, v1, v2, v3, v4, v5, v6⟩ := hx3.seven
                 have HCv := Lib.hid hcv
                 have HZ2 := Lib.hid z2
                 have HZ5 := Lib.hid z5'
                 clear hcv z2 z5')
              | (refine step_append_src _ rfl (.tmp 58) (.tmp 64) 271 271 rfl w.heap.size 273 i1 _ 7 96 Tryz.underlying271 hi1 hz1 hs1 hb1 rfl sv j cs rfl (hown3.alloc _) (.slice (some ⟨w2.heap.size, 0, none⟩) 1 1) 1 (vcells k' n' f' s' t' a1'' ks'.len c1'' a2'' fs'.len c2'') rfl
                   (src85 w2 k' n' f' s' t' a1'' ks'.len c1'' a2'' fs'.len c2'') (by unfold maxLen; omega) (by omega) (by have := hbut3.size; have := hbut1.size; simp; omega) ?_
                 intro v' w5 hown5 hg5 hat5
                 obtain ⟨A5, c5, rfl⟩ := own_shape hown5
                 have hb75 : Blk w5 B7 273 #[.int .u8 k, .int .i64 n, .float .f64 f, .int .i64 s, .string t, sv, .slice A' (fs.cut e r1).len c'] := (hg5.block B7 (by have := hb73.lt; simp; omega) hnb7).trans (hb73.alloc _)
                 have yb5 := hb75.seven.2.2.2.2.2.1
                 have fb5 := hb75.frozen 5))
            all_goals
              have hs2 := hbut3.size
              have hs5 := hg5.size
              have hsx := Hsz2.out
              simp only [World.size_alloc] at hs5
              have hcd := V.cut_dec (.mk vk vn vf vs vt vks vfs) e ρ
              have hclow := (V.cut_ok (.mk vk vn vf vs vt vks vfs) e ρ o2 (by omega)).2.2 (by omega)
              have hj := Vs.join_step acc (.mk vk vn vf vs vt vks vfs) q e ρ hneg
              rw [HCv.out] at hcd hclow hj
              simp only at hcd hclow hj
              have Hj := Lib.hid hj
              clear hj
              have hs9 : (w5.setCell ⟨B7, 5, none⟩ (.slice A5 (j + 1) c5)).heap.size = w5.heap.size := by simp [World.setCell]
              have hown7 : ∀ x, x < w2.heap.size → some x ≠ sv.ownBlock → some x ≠ (Value.slice A5 (j + 1) c5).ownBlock := by
                intro x hx h
                rcases hat5 with e | e
                · rw [e]; exact h
                · rw [e]; simp; omega
              have hgk : ∀ g, g < w2.heap.size → some g ≠ sv.ownBlock → g ≠ B7 → (w5.setCell ⟨B7, 5, none⟩ (.slice A5 (j + 1) c5)).heap[g]? = w2.heap[g]? := fun g h1 h2 h3 =>
                (Below.heap_setCell w5 ⟨B7, 5, none⟩ _ g h3).trans ((hg5.block g (by simp; omega) h2).trans (Below.heap_alloc _ _ _ h1))
              have hgo : ∀ g, New w wr g ∧ some g ≠ sv.ownBlock ∧ g ≠ B7 ∧ g ≠ w.heap.size + 1 → (w5.setCell ⟨B7, 5, none⟩ (.slice A5 (j + 1) c5)).heap[g]? = wr.heap[g]? := by
                rintro g ⟨⟨h1, h2⟩, h3, h4, _⟩
                exact (hgk g (by omega) h3 h4).trans ((hbut3.block g (by omega) (by simp; omega)).trans (hHX.out g h2))
              have hp1 : ∀ g, New w wr g ∧ some g ≠ sv.ownBlock ∧ g ≠ B7 ∧ g ≠ w.heap.size + 1 → New w (w5.setCell ⟨B7, 5, none⟩ (.slice A5 (j + 1) c5)) g ∧ some g ≠ (Value.slice A5 (j + 1) c5).ownBlock ∧ g ≠ B7 ∧ g ≠ w.heap.size + 1 := by
                rintro g ⟨⟨h1, h2⟩, h3, h4, h5⟩
                exact ⟨⟨h1, by rw [hs9]; omega⟩, hown7 g (by omega) h3, h4, h5⟩
              have hnx : ∀ g, New wX w2 g → some g ≠ sv.ownBlock ∧ g ≠ B7 ∧ g ≠ w.heap.size + 1 := by
                rintro g ⟨h1, h2⟩
                refine ⟨fun e => ?_, by omega, by have := hb6.lt; omega⟩
                have := (hrow1 g e.symm).2
                omega
              have hp2 : ∀ g, New wX w2 g → New w (w5.setCell ⟨B7, 5, none⟩ (.slice A5 (j + 1) c5)) g ∧ some g ≠ (Value.slice A5 (j + 1) c5).ownBlock ∧ g ≠ B7 ∧ g ≠ w.heap.size + 1 := by
                intro g hg
                obtain ⟨h1, h2, h3⟩ := hnx g hg
                exact ⟨⟨by have := hg.1; omega, by rw [hs9]; have := hg.2; omega⟩, hown7 g hg.2 h1, h2, h3⟩
              have hk2 : ∀ g, New wX w2 g → (w5.setCell ⟨B7, 5, none⟩ (.slice A5 (j + 1) c5)).heap[g]? = w2.heap[g]? := fun g hg => hgk g hg.2 (hnx g hg).1 (hnx g hg).2.1
              have f1 : VsC (w5.setCell ⟨B7, 5, none⟩ (.slice A5 (j + 1) c5)) (fun g => New w (w5.setCell ⟨B7, 5, none⟩ (.slice A5 (j + 1) c5)) g ∧ some g ≠ (Value.slice A5 (j + 1) c5).ownBlock ∧ g ≠ B7 ∧ g ≠ w.heap.size + 1) (acc.app (.cons (.mk k' n' f' s' t' ks' fs') .nil)) (cs ++ vcells k' n' f' s' t' a1'' ks'.len c1'' a2'' fs'.len c2'') := by
                refine VsC.snoc ?_ ((HC.out.keep hgo).more hp1)
                rw [RdV]
                exact ⟨a1'', c1'', a2'', c2'', xs'', ys'', rfl, (z1.keep hk2).more hp2, (HZ2.out.keep hk2).more hp2, z3, (z4.keep hk2).more hp2, (HZ5.out.keep hk2).more hp2, z6⟩
              have F1 := Lib.hid f1
              have F2 := Lib.hid ((HRD.out.keep hgo).more hp1)
              have F3 := Lib.hid ((HFS.out.keep hgo).more hp1)
              have f4 : Blk (w5.setCell ⟨B7, 5, none⟩ (.slice A5 (j + 1) c5)) rb 3 #[.int .i64 ρ1] := (hgk rb (by omega) (fun e => by have := (hrow1 rb e.symm).1; omega) (by omega)).trans hroom3
              have f5 : But w (w5.setCell ⟨B7, 5, none⟩ (.slice A5 (j + 1) c5)) [rb] := ((((hbut1.trans hbut3).alloc _).grown hg5 (fun g hg => .inr (hrow1 g hg).1)).setCell (.inr (by show w.heap.size ≤ B7; omega)) _)
              have f6 : Blk (w5.setCell ⟨B7, 5, none⟩ (.slice A5 (j + 1) c5)) B7 273 #[.int .u8 k, .int .i64 n, .float .f64 f, .int .i64 s, .string t, .slice A5 (j + 1) c5, .slice A' (fs.cut e r1).len c'] := by
                have := hb75.set_ 5 (.slice A5 (j + 1) c5); simpa using this
              have hn7 := hown7 B7 (by omega) hnb7
              have hn6 := hown7 (w.heap.size + 1) (by have := hb6.lt; omega) hnb6
              have f7 : (w5.setCell ⟨B7, 5, none⟩ (.slice A5 (j + 1) c5)).ownsRow w.heap.size 273 7 (.slice A5 (j + 1) c5) (j + 1) (cs ++ vcells k' n' f' s' t' a1'' ks'.len c1'' a2'' fs'.len c2'') :=
                own_keep hown5 fun g hg => Below.heap_setCell w5 ⟨B7, 5, none⟩ _ g (fun e => hn7 (by rw [hg]; exact congrArg some e.symm))
              have f8 : Blk (w5.setCell ⟨B7, 5, none⟩ (.slice A5 (j + 1) c5)) (w.heap.size + 1) 273 (vcells 0 0 0 0 ⟨#[]⟩ none 0 0 none 0 0).toArray :=
                (hgk _ (by have := hb6.lt; omega) hnb6 (by omega)).trans ((hbut3.block _ (by have := hb6.lt; omega) (by simp; omega)).trans hb61)
              clear f1 hgk hgo hp1 hp2 hnx hk2 hown7 hs9 hs5
              generalize w5.setCell ⟨B7, 5, none⟩ (.slice A5 (j + 1) c5) = w9 at F1 F2 F3 f4 f5 f6 f7 f8 ⊢
              go_wp2
              refine ⟨⟨j + 1, _, q, ρ1, _, _, by go_num, by rw [Vs.len_app, hacc]; rfl, by omega, o3, hclow, by omega, Hj.out.symm.trans HJ.out, ?_, f6, f7, hn7, hn6, F1.out, F2.out, F3.out, f4, f5, f8⟩, by simp [intOf]; omega⟩
              rw [show (j + 1) * 7 = j * 7 + 7 by omega]
              exact x7

end Go.Proofs.YtabeppaehenefaaGreat

namespace Go.Proofs.YtabeppaehenefaaGreat
open Go.RowKit

theorem all_cut : ∀ d : Nat, d ≤ 10 → ValueC d ∧ FieldsC d
  | 0, _ => by
    have h := value_of 0 (by omega) (.inl rfl)
    exact ⟨h, fields_of_value 0 (by omega) h⟩
  | d + 1, hd => by
    have ih := all_cut d (by omega)
    have h := value_of (d + 1) hd (.inr (by simpa using ⟨ih.2, ih.1⟩))
    exact ⟨h, fields_of_value (d + 1) hd h⟩

/-- table -/
theorem table_any (fs : Fs) (A : Option Addr) (c : Nat) (xs : List Value) (p : Nat → Prop) (w : World) (hok : fs.ok) (hlen : fs.len ≤ 140737488355328) (hR : Rd w p A xs) (hF : FsC w p fs xs) (hc : fs.len ≤ c) (hp : ∀ g, p g → g < w.heap.size) :
    Calls Tryz.prog 11 #[.slice A fs.len c] w fun e w' => ∃ A' c' ys, e = .returned (.slice A' (fs.cut 10 4000).len c') ∧ Rd w' (New w w') A' ys ∧ FsC w' (New w w') (fs.cut 10 4000) ys ∧ (fs.cut 10 4000).len ≤ c' ∧ Below w.heap.size w w' := by
  have Hok := Lib.hid hok
  have hk : ∀ g, p g → (w.alloc (.cells #[.int .i64 4000] 3)).heap[g]? = w.heap[g]? := fun g hg => Below.heap_alloc _ _ _ (hp g hg)
  have hcall := (all_cut 10 (by omega)).2 fs A c xs p 4000 w.heap.size (w.alloc (.cells #[.int .i64 4000] 3)) hok hlen (hR.keep hk) (hF.keep hk) hc (fun g hg => ⟨by have := hp g hg; simp; omega, by have := hp g hg; omega⟩) (Blk.new w 3 _) (by omega) (by omega)
  have HC := Lib.hid hcall
  clear hcall hok hR hF hk hp
  go_enter Tryz.func11, Tryz.ntmps11
  go_wp2_with fail
  refine HC.out.mono ?_
  rintro e w1 ⟨A', c', ys, rfl, h1, h2, h3, h4, h5⟩
  have hs := h5.size
  simp at hs
  have hn : ∀ g, New (w.alloc (.cells #[.int .i64 4000] 3)) w1 g → New w w1 g := by
    rintro g ⟨a, b⟩
    simp at a
    exact ⟨by omega, b⟩
  have HF := Lib.hid (h2.more hn)
  have HR := Lib.hid (h1.more hn)
  have HB := Lib.hid (((Below.refl w.heap.size w).alloc (Nat.le_refl _) (.cells #[.int .i64 4000] 3)).trans (h5.below (by simp) (by simp)))
  clear h1 h2 h5 hn
  go_wp2
  go_ret
  exact ⟨A', c', ys, rfl, HR.out, HF.out, h3, HB.out⟩

end Go.Proofs.YtabeppaehenefaaGreat
