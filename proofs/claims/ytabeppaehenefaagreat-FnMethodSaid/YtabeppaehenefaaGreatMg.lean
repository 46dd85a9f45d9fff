/-
  FnMethod: spec.MethodBytes' walk.
-/
import Derived.Test.YtabeppaehenefaaGreatMh
import Derived.Test.YtabeppaehenefaaGreatIa
import Derived.StillTailTactics
namespace Go.Proofs.YtabeppaehenefaaGreat
open Go.RowKit
attribute [local go_sem ↓] Go.wp_at_zero Go.wp_at_succ

/-- the letters of known methods -/
def isLet (c : UInt8) : Bool := [49, 50, 51, 52, 98, 111, 115, 108, 113, 83, 76, 116].contains c.toNat
theorem known_let : known.all (fun m => m.2.2.all isLet) = true := by decide
theorem letters_let {cl me : Int} {ls : List UInt8} (h : letters cl me = some ls) : ∀ c ∈ ls, isLet c = true := by
  unfold letters at h
  obtain ⟨m, hm, rfl⟩ := Option.map_eq_some_iff.1 h
  exact List.all_eq_true.1 (List.all_eq_true.1 known_let m (List.mem_of_find?_eq_some hm))
theorem isLet_cases {c : UInt8} (h : isLet c = true) : c.toNat = 49 ∨ c.toNat = 50 ∨ c.toNat = 51 ∨ c.toNat = 52 ∨ c.toNat = 98 ∨ c.toNat = 111 ∨ c.toNat = 115 ∨ c.toNat = 108 ∨ c.toNat = 113 ∨ c.toNat = 83 ∨ c.toNat = 76 ∨ c.toNat = 116 := by
  simp [isLet] at h
  omega
theorem known_nine : known.all (fun m => decide (m.2.2.length ≤ 9)) = true := by decide
theorem letters_nine {cl me : Int} {ls : List UInt8} (h : letters cl me = some ls) : ls.length ≤ 9 := by
  unfold letters at h
  obtain ⟨m, hm, rfl⟩ := Option.map_eq_some_iff.1 h
  exact of_decide_eq_true (List.all_eq_true.1 known_nine m (List.mem_of_find?_eq_some hm))
theorem known_range : known.all (fun m => decide (0 ≤ m.1 ∧ m.1 ≤ 255 ∧ 0 ≤ m.2.1 ∧ m.2.1 ≤ 255)) = true := by decide
theorem letters_range {cl me : Int} {ls : List UInt8} (h : letters cl me = some ls) : 0 ≤ cl ∧ cl ≤ 255 ∧ 0 ≤ me ∧ me ≤ 255 := by
  unfold letters at h
  obtain ⟨m, hm, rfl⟩ := Option.map_eq_some_iff.1 h
  have h1 := of_decide_eq_true (List.all_eq_true.1 known_range m (List.mem_of_find?_eq_some hm))
  have h2 := List.find?_some hm
  simp [isM] at h2
  omega

def MbPost (w : World) (cl me : Int) (ls : List UInt8) (gs : List Ag) (e : Ending) (w' : World) : Prop := ∃ sv, e = .returned sv ∧ Own w' (w.heap.size + 1) sv (methB cl me ls gs) ∧ Below w.heap.size w w'

set_option maxRecDepth 100000 in
set_option maxHeartbeats 4000000 in
/-- spec.MethodBytes -/
theorem MethodBytes_any (cl me : Int) (ls : List UInt8) (gs : List Ag) (A : Option Addr) (c : Nat) (xs : List Value) (p : Nat → Prop) (w : World) (hls : letters cl me = some ls) (hpr : properL ls gs) (hok : ∀ a ∈ gs, a.ok) (hlen : gs.length ≤ 2147483647) (hR : Rd w p A xs) (hA : AgsC w p gs xs) (hp : ∀ g, p g → g < w.heap.size) :
    Calls Tryz.prog 10 #[.agg #[.int .i64 cl, .int .i64 me, .slice A gs.length c]] w (MbPost w cl me ls gs) := by
  have HR := Lib.hid hR
  have HA := Lib.hid hA
  have Hok := Lib.hid hok
  have HP := Lib.hid hp
  have HPr := Lib.hid hpr
  have HLs := Lib.hid hls
  obtain ⟨hc0, hc1, hm0, hm1⟩ := letters_range hls
  have hbi := Buf.new2 (w.alloc (.cells #[.int .i64 cl, .int .i64 me, .slice A gs.length c] 28))
  clear hR hA hok hp hpr hls
  go_enter Tryz.func10, Tryz.ntmps10
  go_upto_region 2 with fail
  have hz : (w.alloc (.cells #[.int .i64 cl, .int .i64 me, .slice A gs.length c] 28)).heap.size = w.heap.size + 1 := by simp
  rw [hz] at hbi
  have hbu := hbi.belowAll ((Below.refl _ _).alloc (Nat.le_refl _) (.cells #[.pointer (some ⟨w.heap.size + 1 + 1, 0, none⟩)] 69))
  have b0 : Blk ((((w.alloc (.cells #[.int .i64 cl, .int .i64 me, .slice A gs.length c] 28)).alloc (.cells #[] 5)).alloc (.cells #[.slice (some ⟨w.heap.size + 1, 0, none⟩) 0 0] 70)).alloc (.cells #[.pointer (some ⟨w.heap.size + 1 + 1, 0, none⟩)] 69)) w.heap.size 28 #[.int .i64 cl, .int .i64 me, .slice A gs.length c] := (((Blk.new w _ _).alloc _).alloc _).alloc _
  have b3 : Blk ((((w.alloc (.cells #[.int .i64 cl, .int .i64 me, .slice A gs.length c] 28)).alloc (.cells #[] 5)).alloc (.cells #[.slice (some ⟨w.heap.size + 1, 0, none⟩) 0 0] 70)).alloc (.cells #[.pointer (some ⟨w.heap.size + 1 + 1, 0, none⟩)] 69)) (w.heap.size + 1 + 1 + 1) 69 #[.pointer (some ⟨w.heap.size + 1 + 1, 0, none⟩)] := by
    have := Blk.new (((w.alloc (.cells #[.int .i64 cl, .int .i64 me, .slice A gs.length c] 28)).alloc (.cells #[] 5)).alloc (.cells #[.slice (some ⟨w.heap.size + 1, 0, none⟩) 0 0] 70)) 69 #[.pointer (some ⟨w.heap.size + 1 + 1, 0, none⟩)]; simpa using this
  have hbel : Below w.heap.size w ((((w.alloc (.cells #[.int .i64 cl, .int .i64 me, .slice A gs.length c] 28)).alloc (.cells #[] 5)).alloc (.cells #[.slice (some ⟨w.heap.size + 1, 0, none⟩) 0 0] 70)).alloc (.cells #[.pointer (some ⟨w.heap.size + 1 + 1, 0, none⟩)] 69)) := ((((Below.refl _ _).alloc (Nat.le_refl _) _).alloc (by simp) _).alloc (by simp; omega) _).alloc (by simp; omega) _
  have hsz : ((((w.alloc (.cells #[.int .i64 cl, .int .i64 me, .slice A gs.length c] 28)).alloc (.cells #[] 5)).alloc (.cells #[.slice (some ⟨w.heap.size + 1, 0, none⟩) 0 0] 70)).alloc (.cells #[.pointer (some ⟨w.heap.size + 1 + 1, 0, none⟩)] 69)).heap.size = w.heap.size + 4 := by simp
  clear hbi hz
  generalize ((((w.alloc (.cells #[.int .i64 cl, .int .i64 me, .slice A gs.length c] 28)).alloc (.cells #[] 5)).alloc (.cells #[.slice (some ⟨w.heap.size + 1, 0, none⟩) 0 0] 70)).alloc (.cells #[.pointer (some ⟨w.heap.size + 1 + 1, 0, none⟩)] 69)) = wx at hbu b0 b3 hbel hsz ⊢
  have m0 := b0.cell 0
  have m1 := b0.cell 1
  have m3 := b3.cell0
  simp at m0 m1
  have hput := put_n cl 2 hbu (by omega) hc0 (by omega) (by omega) (by simp)
  have HPut := Lib.hid hput
  have hrow := hbu.row_lt
  clear hput
  have Hsz := Lib.hid hsz
  clear hsz
  go_wp2_with fail
  refine HPut.out.mono ?_
  rintro e w1 ⟨rfl, sv1, hb1, hw1⟩
  have b01 : Blk w1 w.heap.size 28 #[.int .i64 cl, .int .i64 me, .slice A gs.length c] := (hw1.block _ b0.lt (by omega) (hbu.row_ne b0 (by decide))).trans b0
  have b31 : Blk w1 (w.heap.size + 1 + 1 + 1) 69 #[.pointer (some ⟨w.heap.size + 1 + 1, 0, none⟩)] := (hw1.block _ b3.lt (by omega) (hbu.row_ne b3 (by decide))).trans b3
  have HB1 := Lib.hid (hbel.trans (hw1.below (B := w.heap.size) (by omega) (fun g hg => by have := (hrow g hg).1; omega) hbel.size))
  have hs1 := hw1.size
  clear hbu b0 b3 hbel hrow m0 m1 m3 hw1
  have m0 := b01.cell 0
  have m1 := b01.cell 1
  have m3 := b31.cell0
  simp at m0 m1
  have hrow := hb1.row_lt
  have hB1 := HB1.out.size
  have hput := put_n me 2 hb1 (by have := Hsz.out; omega) hm0 (by omega) (by omega) (by simp [be_len])
  have HPut2 := Lib.hid hput
  clear hput HPut
  go_wp2_with fail
  refine HPut2.out.mono ?_
  rintro e w2 ⟨rfl, sv2, hb2, hw2⟩
  have b02 : Blk w2 w.heap.size 28 #[.int .i64 cl, .int .i64 me, .slice A gs.length c] := (hw2.block _ b01.lt (by omega) (hb1.row_ne b01 (by decide))).trans b01
  have b32 : Blk w2 (w.heap.size + 1 + 1 + 1) 69 #[.pointer (some ⟨w.heap.size + 1 + 1, 0, none⟩)] := (hw2.block _ b31.lt (by omega) (hb1.row_ne b31 (by decide))).trans b31
  have HB2 := Lib.hid (HB1.out.trans (hw2.below (B := w.heap.size) (by omega) (fun g hg => by have := (hrow g hg).1; omega) HB1.out.size))
  have hs2 := hw2.size
  clear hb1 b01 b31 hrow m0 m1 m3 hw2
  have m0 := b02.cell 0
  have m1 := b02.cell 1
  simp at m0 m1
  have hL := Letters_any cl me w2
  rw [HLs.out] at hL
  simp only [Option.getD_some, Option.isSome_some] at hL
  have HL := Lib.hid hL
  clear hL HPut2
  go_wp2_with fail
  refine HL.out.mono ?_
  rintro e w3 ⟨rfl, h3⟩
  have hb3 := hb2.belowAll h3
  have b03 := b02.below h3 b02.lt
  have b33 := b32.below h3 b32.lt
  have HB3 := Lib.hid (HB2.out.trans (h3.mono HB2.out.size))
  have hs3 := h3.size
  clear hb2 b02 b32 m0 m1 h3 HL
  go_upto_region 6 with fail
  have hrow3 := hb3.row_lt
  have Hrow3 := Lib.hid hrow3
  have hb4 := (hb3.alloc (.cells #[.int .i64 0] 3)).alloc (.cells #[.int .u8 0] 5)
  have b04 := (b03.alloc (.cells #[.int .i64 0] 3)).alloc (.cells #[.int .u8 0] 5)
  have b34 := (b33.alloc (.cells #[.int .i64 0] 3)).alloc (.cells #[.int .u8 0] 5)
  have bp4 := (Blk.new w3 3 #[.int .i64 0]).alloc (.cells #[.int .u8 0] 5)
  have bh4 : Blk ((w3.alloc (.cells #[.int .i64 0] 3)).alloc (.cells #[.int .u8 0] 5)) (w3.heap.size + 1) 5 #[.int .u8 0] := by
    have := Blk.new (w3.alloc (.cells #[.int .i64 0] 3)) 5 #[.int .u8 0]; simpa using this
  have hbel4 := (HB3.out.alloc HB3.out.size (.cells #[.int .i64 0] 3)).alloc (by have := HB3.out.size; simp; omega) (.cells #[.int .u8 0] 5)
  have hs4 : ((w3.alloc (.cells #[.int .i64 0] 3)).alloc (.cells #[.int .u8 0] 5)).heap.size = w3.heap.size + 2 := by simp
  clear hb3 b03 b33 hrow3
  generalize (w3.alloc (.cells #[.int .i64 0] 3)).alloc (.cells #[.int .u8 0] 5) = w4 at hb4 b04 b34 bp4 bh4 hbel4 hs4 ⊢
  obtain ⟨c2, w5, hrun, hc2, -, hbel5, hsz5, hcell⟩ := conv_bytes w4 ⟨ls.toArray⟩ 9 Tryz.underlying9
  rw [show (⟨ls.toArray⟩ : ByteArray).size = ls.length from rfl] at hrun hcell hc2
  have hb5 := hb4.belowAll hbel5
  have b05 := b04.below hbel5 b04.lt
  have b35 := b34.below hbel5 b34.lt
  have bp5 := bp4.below hbel5 bp4.lt
  have bh5 := bh4.below hbel5 bh4.lt
  have HB5 := Lib.hid (hbel4.trans (hbel5.mono hbel4.size))
  have HCell := Lib.hid hcell
  have Hs4 := Lib.hid hs4
  have Hs5 := Lib.hid hsz5
  clear hb4 b04 b34 bp4 bh4 hbel4 hbel5 hcell hs4 hsz5
  go_wp2_with fail
  clear hrun
  go_loopw [37, 6] (fun i nx wr => ∃ (k : Nat) (rest : List UInt8) (j : Nat) (ra pre : List Ag) (sv : Value) (n h : Nat) (ys : List UInt8), i = .int .i64 k ∧ nx = .int .i64 j ∧ rest.length + k = ls.length ∧ rest = ls.drop k ∧ ra.length + j = gs.length ∧
    AgsC w p ra (xs.drop (j * 4)) ∧ gs = pre ++ ra ∧ properL rest ra ∧ ys ++ argsB rest ra n h = methB cl me ls gs ∧ Ms w w5 w3.heap.size w4.heap.size cl me A gs.length c n h sv ys wr ∧ n ≤ k ∧ (0 < n ∨ h = 0) ∧ ys.length ≤ 4 + k * 20005) (fun i _ _ => ls.length - (intOf i).toNat)
  case atStart =>
    exact ⟨0, ls, 0, gs, [], sv2, 0, 0, _, rfl, rfl, rfl, rfl, rfl, by simpa using HA.out, rfl, HPr.out, by simp [methB], ⟨hb5, b05, b35, bp5, bh5, by omega, fun g hg => .inl (Hrow3.out g hg).2, rfl, Nat.le_refl _, HB5.out, by have := Hsz.out; omega, Hs4.out, by have := Hs4.out; have := Hs5.out; omega⟩, by omega, .inr rfl, by simp [be_len]⟩
  case round =>
    obtain ⟨k, rest, j, ra, pre, sv, n, h, ys, rfl, rfl, hrest, hdr, hra, hraA, hpre, hprop, hys, hm, hn, hnh, hyl⟩ := hrel
    have HYs := Lib.hid hys
    have HPre := Lib.hid hpre
    have HM := Lib.hid hm
    have hll := letters_nine HLs.out
    clear hys hpre
    cases rest with
    | nil =>
      have hk : k = ls.length := by simpa using hrest
      have hra0 : ra = [] := by simpa [properL] using hprop
      subst hra0
      clear hrest hdr hprop hraA hra
      subst hk
      have hcall := flush_any hm.buf (by have := hm.bel.size; have := hm.buf.lt; omega) hm.bp hm.b3 hm.bh hm.hne hm.hh (by omega)
      have HC := Lib.hid hcall
      clear hcall hm
      go_wp2_with fail
      refine HC.out.mono ?_
      intro e w6 hf
      obtain ⟨rfl, sv', g1⟩ := HM.out.flush hf hnh
      have m3 := g1.b3.cell0
      have g6 : Buf w6 (w.heap.size + 1) 70 (w.heap.size + 1 + 1) sv' (methB cl me ls gs) := by rw [← HYs.out]; exact g1.buf
      have m4 := g6.cell
      have hfin : MbPost w cl me ls gs (.returned sv') w6 := ⟨sv', rfl, g6.isOwn, g1.bel⟩
      have HFin := Lib.hid hfin
      obtain ⟨A6, c6, rfl⟩ := g6.shape
      clear hfin hf g1 g6
      go_wp2
      go_ret
      exact HFin.out
    | cons ch r =>
      have hk : k < ls.length := by simp at hrest; omega
      have hch : ls[k]? = some ch := by have := congrArg (fun l => l[0]?) hdr; simpa using this.symm
      have hr : r = ls.drop (k + 1) := by rw [← List.drop_drop, ← hdr]; rfl
      have m1 : wr.cell? ⟨w4.heap.size, k, none⟩ = some (.int .u8 ch.toNat) := by
        rw [World.cell?_of_block (w := w5) (a := ⟨w4.heap.size, k, none⟩) hm.row, HCell.out k (by show k < ls.length; exact hk)]
        simp [List.getD, hch]
      have hk0 : (0 : Int) ≤ (k : Int) := by omega
      have hk1 : (k : Int) < (ls.length : Int) := by omega
      have hrl : r.length + (k + 1) = ls.length := by simp at hrest; omega
      have hia := isLet_cases (letters_let HLs.out ch (List.mem_of_getElem? hch))
      have HIa := Lib.hid hia
      have Hch := Lib.hid hch
      have Hr := Lib.hid hr
      have Hrl := Lib.hid hrl
      have Hra := Lib.hid hra
      have HX := Lib.hid hraA
      have HProp := Lib.hid hprop
      clear hrest hdr hrl hr hch hia hra hraA hprop hm
      rcases HIa.out with hc | hc | hc | hc | hc | hc | hc | hc | hc | hc | hc | hc
      · skip
        rw [hc] at m1
        have Hc := Lib.hid hc
        clear hc
        have mA := HM.out.alloc (.cells #[.int .i64 0, .int .u64 0, .string ⟨#[]⟩, .slice none 0 0] 45)
        have hA := Blk.new wr 45 #[.int .i64 0, .int .u64 0, .string ⟨#[]⟩, .slice none 0 0]
        have hAn : some wr.heap.size ≠ sv.ownBlock := fun e => by have := (HM.out.buf.row_lt _ e.symm).2; omega
        have hsz := HM.out.size
        have hw5 := HM.out.w5_eq
        have hlo := HM.out.lo_ge
        have Hsz := Lib.hid (And.intro hsz (And.intro hw5 hlo))
        have HMA := Lib.hid mA
        have HA1 := Lib.hid hA
        have hcall := flush_any mA.buf (by have := mA.bel.size; have := mA.buf.lt; omega) mA.bp mA.b3 mA.bh mA.hne mA.hh (by omega)
        have HC := Lib.hid hcall
        clear hcall mA hA hsz hw5 hlo
        go_wp2_with fail
        refine HC.out.mono ?_
        intro e w6 hf
        have hA6 := hf.keep HA1.out (by have := Hsz.out; omega) (by have := Hsz.out; omega) (by have := Hsz.out; omega) hAn
        obtain ⟨rfl, sv1, m6⟩ := HMA.out.flush hf hnh
        have m3 := m6.b3.cell0
        have u1 : w6.cell? ⟨wr.heap.size, 1, none⟩ = some (.int .u64 0) := by rw [hA6.cell]; rfl
        have u2 : w6.cell? ⟨wr.heap.size, 2, none⟩ = some (.string ⟨#[]⟩) := by rw [hA6.cell]; rfl
        have u3 : w6.cell? ⟨wr.heap.size, 3, none⟩ = some (.slice none 0 0) := by rw [hA6.cell]; rfl
        have hfl := flushB_len n h
        have HM6 := Lib.hid m6
        clear hf HC hA6
        have hput := put_n 0 2 m6.buf (by have := m6.bel.size; have := m6.buf.lt; omega) (by omega) (by omega) (by omega) (by rw [List.length_append]; omega)
        have HPut := Lib.hid hput
        clear hput m6
        go_wp2_with fail
        refine HPut.out.mono ?_
        rintro e w7 ⟨rfl, sv7, hb7, hw7⟩
        have HM7 := Lib.hid (HM6.out.call hb7 hw7)
        clear hb7 hw7
        go_wp2_with fail
        refine ⟨⟨k + 1, r, j, ra, pre, sv7, 0, 0, _, rfl, rfl, Hrl.out, Hr.out, Hra.out, HX.out, HPre.out, ?_, ?_, HM7.out, by omega, .inr rfl, ?_⟩, by simp [intOf]; omega⟩
        · have := HProp.out; rw [properL, if_pos (by have := Hc.out; omega)] at this; exact this
        · rw [← HYs.out, argsB_low (by have := Hc.out; omega) (by have := Hc.out; omega), Hc.out]; simp [argB, Ag.none]
        · simp [be_len]; omega
      · skip
        rw [hc] at m1
        have Hc := Lib.hid hc
        clear hc
        have mA := HM.out.alloc (.cells #[.int .i64 0, .int .u64 0, .string ⟨#[]⟩, .slice none 0 0] 45)
        have hA := Blk.new wr 45 #[.int .i64 0, .int .u64 0, .string ⟨#[]⟩, .slice none 0 0]
        have hAn : some wr.heap.size ≠ sv.ownBlock := fun e => by have := (HM.out.buf.row_lt _ e.symm).2; omega
        have hsz := HM.out.size
        have hw5 := HM.out.w5_eq
        have hlo := HM.out.lo_ge
        have Hsz := Lib.hid (And.intro hsz (And.intro hw5 hlo))
        have HMA := Lib.hid mA
        have HA1 := Lib.hid hA
        have hcall := flush_any mA.buf (by have := mA.bel.size; have := mA.buf.lt; omega) mA.bp mA.b3 mA.bh mA.hne mA.hh (by omega)
        have HC := Lib.hid hcall
        clear hcall mA hA hsz hw5 hlo
        go_wp2_with fail
        refine HC.out.mono ?_
        intro e w6 hf
        have hA6 := hf.keep HA1.out (by have := Hsz.out; omega) (by have := Hsz.out; omega) (by have := Hsz.out; omega) hAn
        obtain ⟨rfl, sv1, m6⟩ := HMA.out.flush hf hnh
        have m3 := m6.b3.cell0
        have u1 : w6.cell? ⟨wr.heap.size, 1, none⟩ = some (.int .u64 0) := by rw [hA6.cell]; rfl
        have u2 : w6.cell? ⟨wr.heap.size, 2, none⟩ = some (.string ⟨#[]⟩) := by rw [hA6.cell]; rfl
        have u3 : w6.cell? ⟨wr.heap.size, 3, none⟩ = some (.slice none 0 0) := by rw [hA6.cell]; rfl
        have hfl := flushB_len n h
        have HM6 := Lib.hid m6
        clear hf HC hA6
        have hput := short_any ⟨#[]⟩ m6.buf (by have := m6.bel.size; have := m6.buf.lt; omega) (by decide) (by rw [List.length_append]; omega)
        have HPut := Lib.hid hput
        clear hput m6
        go_wp2_with fail
        refine HPut.out.mono ?_
        rintro e w7 ⟨rfl, sv7, hb7, hw7⟩
        have HM7 := Lib.hid (HM6.out.call hb7 hw7)
        clear hb7 hw7
        go_wp2_with fail
        refine ⟨⟨k + 1, r, j, ra, pre, sv7, 0, 0, _, rfl, rfl, Hrl.out, Hr.out, Hra.out, HX.out, HPre.out, ?_, ?_, HM7.out, by omega, .inr rfl, ?_⟩, by simp [intOf]; omega⟩
        · have := HProp.out; rw [properL, if_pos (by have := Hc.out; omega)] at this; exact this
        · rw [← HYs.out, argsB_low (by have := Hc.out; omega) (by have := Hc.out; omega), Hc.out]; simp [argB, Ag.none, ByteArray.size]
        · simp [be_len]; omega
      · skip
        rw [hc] at m1
        have Hc := Lib.hid hc
        clear hc
        have mA := HM.out.alloc (.cells #[.int .i64 0, .int .u64 0, .string ⟨#[]⟩, .slice none 0 0] 45)
        have hA := Blk.new wr 45 #[.int .i64 0, .int .u64 0, .string ⟨#[]⟩, .slice none 0 0]
        have hAn : some wr.heap.size ≠ sv.ownBlock := fun e => by have := (HM.out.buf.row_lt _ e.symm).2; omega
        have hsz := HM.out.size
        have hw5 := HM.out.w5_eq
        have hlo := HM.out.lo_ge
        have Hsz := Lib.hid (And.intro hsz (And.intro hw5 hlo))
        have HMA := Lib.hid mA
        have HA1 := Lib.hid hA
        have mX := mA.drew
        have aX := hA.drew
        have u1 : (wr.alloc (.cells #[.int .i64 0, .int .u64 0, .string ⟨#[]⟩, .slice none 0 0] 45)).drew.cell? ⟨wr.heap.size, 1, none⟩ = some (.int .u64 0) := by rw [aX.cell]; rfl
        clear mA hA hsz hw5 hlo
        go_upto_region 15 with fail
        refine region_still_tail 8 (by kernel_rfl) (by kernel_rfl) ?_
        simp only [List.take_succ_cons, List.take_zero, List.drop_succ_cons, List.drop_zero]
        clear aX
        generalize (wr.alloc (.cells #[.int .i64 0, .int .u64 0, .string ⟨#[]⟩, .slice none 0 0] 45)).drew = wX at mX u1 ⊢
        have mp := mX.bp.cell0
        have mh := mX.bh.cell0
        have fp := mX.bp.frozen 0
        have fh := mX.bh.frozen 0
        have HX9 := Lib.hid mX
        clear mX
        repeat still_step
        refine wpStill_nil ?_
        go_wp2_with fail
        have HM9 := Lib.hid (HX9.out.bits (n + 1) (orBit n h .none) (orBit_le _ HX9.out.hh))
        have hbv := bit_val .none n h (by decide) (by decide) HX9.out.hh
        change bits .or .u8 (h : Int) (bits .and .u64 0 1 % 256 * 2 ^ n % 256) = _ at hbv
        rw [hbv]
        refine ⟨⟨k + 1, r, j, ra, pre, sv, n + 1, orBit n h .none, ys, rfl, rfl, Hrl.out, Hr.out, Hra.out, HX.out, HPre.out, ?_, ?_, HM9.out, by omega, .inl (by omega), by omega⟩, by simp [intOf]; omega⟩
        · have := HProp.out; rw [properL, if_pos (by have := Hc.out; omega)] at this; exact this
        · rw [← HYs.out, argsB_51 Hc.out]
      · skip
        rw [hc] at m1
        have Hc := Lib.hid hc
        clear hc
        have mA := HM.out.alloc (.cells #[.int .i64 0, .int .u64 0, .string ⟨#[]⟩, .slice none 0 0] 45)
        have hA := Blk.new wr 45 #[.int .i64 0, .int .u64 0, .string ⟨#[]⟩, .slice none 0 0]
        have hAn : some wr.heap.size ≠ sv.ownBlock := fun e => by have := (HM.out.buf.row_lt _ e.symm).2; omega
        have hsz := HM.out.size
        have hw5 := HM.out.w5_eq
        have hlo := HM.out.lo_ge
        have Hsz := Lib.hid (And.intro hsz (And.intro hw5 hlo))
        have HMA := Lib.hid mA
        have HA1 := Lib.hid hA
        have hcall := flush_any mA.buf (by have := mA.bel.size; have := mA.buf.lt; omega) mA.bp mA.b3 mA.bh mA.hne mA.hh (by omega)
        have HC := Lib.hid hcall
        clear hcall mA hA hsz hw5 hlo
        go_wp2_with fail
        refine HC.out.mono ?_
        intro e w6 hf
        have hA6 := hf.keep HA1.out (by have := Hsz.out; omega) (by have := Hsz.out; omega) (by have := Hsz.out; omega) hAn
        obtain ⟨rfl, sv1, m6⟩ := HMA.out.flush hf hnh
        have m3 := m6.b3.cell0
        have u1 : w6.cell? ⟨wr.heap.size, 1, none⟩ = some (.int .u64 0) := by rw [hA6.cell]; rfl
        have u2 : w6.cell? ⟨wr.heap.size, 2, none⟩ = some (.string ⟨#[]⟩) := by rw [hA6.cell]; rfl
        have u3 : w6.cell? ⟨wr.heap.size, 3, none⟩ = some (.slice none 0 0) := by rw [hA6.cell]; rfl
        have hfl := flushB_len n h
        have HM6 := Lib.hid m6
        clear hf HC hA6
        have hput := long_any ⟨#[]⟩ m6.buf (by have := m6.bel.size; have := m6.buf.lt; omega) (by decide) (by rw [List.length_append]; omega)
        have HPut := Lib.hid hput
        clear hput m6
        go_wp2_with fail
        refine HPut.out.mono ?_
        rintro e w7 ⟨rfl, sv7, hb7, hw7⟩
        have HM7 := Lib.hid (HM6.out.call hb7 hw7)
        clear hb7 hw7
        go_wp2_with fail
        refine ⟨⟨k + 1, r, j, ra, pre, sv7, 0, 0, _, rfl, rfl, Hrl.out, Hr.out, Hra.out, HX.out, HPre.out, ?_, ?_, HM7.out, by omega, .inr rfl, ?_⟩, by simp [intOf]; omega⟩
        · have := HProp.out; rw [properL, if_pos (by have := Hc.out; omega)] at this; exact this
        · rw [← HYs.out, argsB_low (by have := Hc.out; omega) (by have := Hc.out; omega), Hc.out]; simp [argB, Ag.none, ByteArray.size]
        · simp [be_len]; omega
      · skip
        rw [hc] at m1
        have Hc := Lib.hid hc
        clear hc
        obtain ⟨⟨ak, an, at_, afs⟩, q, rfl, hfit, hpq⟩ : ∃ a q, ra = a :: q ∧ a.fit 98 ∧ properL r q := by
          have := HProp.out
          rw [properL, if_neg (by have := Hc.out; omega), Hc.out] at this
          exact this
        have hj0 : (0 : Int) ≤ (j : Int) := by omega
        have hjl : (j : Int) < (gs.length : Int) := by have := Hra.out; simp at this; omega
        obtain ⟨b, off, a1, c1, ys1, rfl, hpb, e0, e1, e2, e3, x1, x2, x3, x4⟩ := AgsC.at_ HR.out HX.out
        have hb' : ∀ o, (wr.alloc o).heap[b]? = w.heap[b]? := fun o => (Below.heap_alloc _ _ _ (by have := HP.out b hpb; have := HM.out.bel.size; omega)).trans (HM.out.bel.block b (HP.out b hpb))
        have f0 : ∀ o, (wr.alloc o).cell? ⟨b, off + j * 4, none⟩ = some (.int .i64 ak) := fun o => by rw [World.cell?_of_block (w := w) (hb' o)]; exact e0
        have f1 : ∀ o, (wr.alloc o).cell? ⟨b, off + j * 4 + 1, none⟩ = some (.int .u64 an) := fun o => by rw [World.cell?_of_block (w := w) (hb' o)]; exact e1
        have f2 : ∀ o, (wr.alloc o).cell? ⟨b, off + j * 4 + 2, none⟩ = some (.string at_) := fun o => by rw [World.cell?_of_block (w := w) (hb' o)]; exact e2
        have f3 : ∀ o, (wr.alloc o).cell? ⟨b, off + j * 4 + 3, none⟩ = some (.slice a1 afs.len c1) := fun o => by rw [World.cell?_of_block (w := w) (hb' o)]; exact e3
        have m0 : ∀ o, (wr.alloc o).cell? ⟨w.heap.size, 2, none⟩ = some (.slice (some ⟨b, off, none⟩) gs.length c) := fun o => by rw [(HM.out.b0.alloc o).cell]; rfl
        have hao : Ag.ok ⟨ak, an, at_, afs⟩ := Hok.out _ (by rw [HPre.out]; simp)
        have HFit := Lib.hid hfit
        have HAo := Lib.hid hao
        have HPq := Lib.hid hpq
        have HX1 := Lib.hid (And.intro x1 (And.intro x2 x3))
        have HX4 := Lib.hid x4
        clear hb' e0 e1 e2 e3 x1 x2 x3 x4 hfit hpq hao
        have mA := HM.out.alloc (.cells #[.int .i64 ak, .int .u64 an, .string at_, .slice a1 afs.len c1] 45)
        have hA := Blk.new wr 45 #[.int .i64 ak, .int .u64 an, .string at_, .slice a1 afs.len c1]
        have hAn : some wr.heap.size ≠ sv.ownBlock := fun e => by have := (HM.out.buf.row_lt _ e.symm).2; omega
        have hsz := HM.out.size
        have hw5 := HM.out.w5_eq
        have hlo := HM.out.lo_ge
        have Hsz := Lib.hid (And.intro hsz (And.intro hw5 hlo))
        have HMA := Lib.hid mA
        have HA1 := Lib.hid hA
        have mX := mA.drew
        have aX := hA.drew
        have u1 : (wr.alloc (.cells #[.int .i64 ak, .int .u64 an, .string at_, .slice a1 afs.len c1] 45)).drew.cell? ⟨wr.heap.size, 1, none⟩ = some (.int .u64 an) := by rw [aX.cell]; rfl
        clear mA hA hsz hw5 hlo
        go_upto_region 15 with fail
        refine region_still_tail 8 (by kernel_rfl) (by kernel_rfl) ?_
        simp only [List.take_succ_cons, List.take_zero, List.drop_succ_cons, List.drop_zero]
        clear aX
        generalize (wr.alloc (.cells #[.int .i64 ak, .int .u64 an, .string at_, .slice a1 afs.len c1] 45)).drew = wX at mX u1 ⊢
        have mp := mX.bp.cell0
        have mh := mX.bh.cell0
        have fp := mX.bp.frozen 0
        have fh := mX.bh.frozen 0
        have HX9 := Lib.hid mX
        clear mX
        repeat still_step
        refine wpStill_nil ?_
        go_wp2_with fail
        have HM9 := Lib.hid (HX9.out.bits (n + 1) (orBit n h ⟨ak, an, at_, afs⟩) (orBit_le _ HX9.out.hh))
        have hbv := bit_val ⟨ak, an, at_, afs⟩ n h HAo.out.2.1.1 HAo.out.2.1.2 HX9.out.hh
        simp only at hbv
        rw [hbv]
        refine ⟨⟨k + 1, r, j + 1, q, pre ++ [⟨ak, an, at_, afs⟩], sv, n + 1, orBit n h ⟨ak, an, at_, afs⟩, ys, rfl, rfl, Hrl.out, Hr.out, by have := Hra.out; simp at this; omega, ?_, by rw [HPre.out]; simp, HPq.out, ?_, HM9.out, by omega, .inl (by omega), by omega⟩, by simp [intOf]; omega⟩
        · rw [show (j + 1) * 4 = j * 4 + 4 by omega]; exact HX4.out
        · rw [← HYs.out, argsB_98 Hc.out]
      · skip
        rw [hc] at m1
        have Hc := Lib.hid hc
        clear hc
        obtain ⟨⟨ak, an, at_, afs⟩, q, rfl, hfit, hpq⟩ : ∃ a q, ra = a :: q ∧ a.fit 111 ∧ properL r q := by
          have := HProp.out
          rw [properL, if_neg (by have := Hc.out; omega), Hc.out] at this
          exact this
        have hj0 : (0 : Int) ≤ (j : Int) := by omega
        have hjl : (j : Int) < (gs.length : Int) := by have := Hra.out; simp at this; omega
        obtain ⟨b, off, a1, c1, ys1, rfl, hpb, e0, e1, e2, e3, x1, x2, x3, x4⟩ := AgsC.at_ HR.out HX.out
        have hb' : ∀ o, (wr.alloc o).heap[b]? = w.heap[b]? := fun o => (Below.heap_alloc _ _ _ (by have := HP.out b hpb; have := HM.out.bel.size; omega)).trans (HM.out.bel.block b (HP.out b hpb))
        have f0 : ∀ o, (wr.alloc o).cell? ⟨b, off + j * 4, none⟩ = some (.int .i64 ak) := fun o => by rw [World.cell?_of_block (w := w) (hb' o)]; exact e0
        have f1 : ∀ o, (wr.alloc o).cell? ⟨b, off + j * 4 + 1, none⟩ = some (.int .u64 an) := fun o => by rw [World.cell?_of_block (w := w) (hb' o)]; exact e1
        have f2 : ∀ o, (wr.alloc o).cell? ⟨b, off + j * 4 + 2, none⟩ = some (.string at_) := fun o => by rw [World.cell?_of_block (w := w) (hb' o)]; exact e2
        have f3 : ∀ o, (wr.alloc o).cell? ⟨b, off + j * 4 + 3, none⟩ = some (.slice a1 afs.len c1) := fun o => by rw [World.cell?_of_block (w := w) (hb' o)]; exact e3
        have m0 : ∀ o, (wr.alloc o).cell? ⟨w.heap.size, 2, none⟩ = some (.slice (some ⟨b, off, none⟩) gs.length c) := fun o => by rw [(HM.out.b0.alloc o).cell]; rfl
        have hao : Ag.ok ⟨ak, an, at_, afs⟩ := Hok.out _ (by rw [HPre.out]; simp)
        have HFit := Lib.hid hfit
        have HAo := Lib.hid hao
        have HPq := Lib.hid hpq
        have HX1 := Lib.hid (And.intro x1 (And.intro x2 x3))
        have HX4 := Lib.hid x4
        clear hb' e0 e1 e2 e3 x1 x2 x3 x4 hfit hpq hao
        have mA := HM.out.alloc (.cells #[.int .i64 ak, .int .u64 an, .string at_, .slice a1 afs.len c1] 45)
        have hA := Blk.new wr 45 #[.int .i64 ak, .int .u64 an, .string at_, .slice a1 afs.len c1]
        have hAn : some wr.heap.size ≠ sv.ownBlock := fun e => by have := (HM.out.buf.row_lt _ e.symm).2; omega
        have hsz := HM.out.size
        have hw5 := HM.out.w5_eq
        have hlo := HM.out.lo_ge
        have Hsz := Lib.hid (And.intro hsz (And.intro hw5 hlo))
        have HMA := Lib.hid mA
        have HA1 := Lib.hid hA
        have hcall := flush_any mA.buf (by have := mA.bel.size; have := mA.buf.lt; omega) mA.bp mA.b3 mA.bh mA.hne mA.hh (by omega)
        have HC := Lib.hid hcall
        clear hcall mA hA hsz hw5 hlo
        go_wp2_with fail
        refine HC.out.mono ?_
        intro e w6 hf
        have hA6 := hf.keep HA1.out (by have := Hsz.out; omega) (by have := Hsz.out; omega) (by have := Hsz.out; omega) hAn
        obtain ⟨rfl, sv1, m6⟩ := HMA.out.flush hf hnh
        have m3 := m6.b3.cell0
        have u1 : w6.cell? ⟨wr.heap.size, 1, none⟩ = some (.int .u64 an) := by rw [hA6.cell]; rfl
        have u2 : w6.cell? ⟨wr.heap.size, 2, none⟩ = some (.string at_) := by rw [hA6.cell]; rfl
        have u3 : w6.cell? ⟨wr.heap.size, 3, none⟩ = some (.slice a1 afs.len c1) := by rw [hA6.cell]; rfl
        have hfl := flushB_len n h
        have HM6 := Lib.hid m6
        clear hf HC hA6
        have hput := put_n an 1 m6.buf (by have := m6.bel.size; have := m6.buf.lt; omega) (by first | omega | exact HAo.out.2.1.1) (by first | omega | exact HAo.out.2.1.2) (by omega) (by rw [List.length_append]; omega)
        have HPut := Lib.hid hput
        clear hput m6
        go_wp2_with fail
        refine HPut.out.mono ?_
        rintro e w7 ⟨rfl, sv7, hb7, hw7⟩
        have HM7 := Lib.hid (HM6.out.call hb7 hw7)
        clear hb7 hw7
        go_wp2_with fail
        refine ⟨⟨k + 1, r, j + 1, q, pre ++ [⟨ak, an, at_, afs⟩], sv7, 0, 0, _, rfl, rfl, Hrl.out, Hr.out, by have := Hra.out; simp at this; omega, ?_, by rw [HPre.out]; simp, HPq.out, ?_, HM7.out, by omega, .inr rfl, ?_⟩, by simp [intOf]; omega⟩
        · rw [show (j + 1) * 4 = j * 4 + 4 by omega]; exact HX4.out
        · rw [← HYs.out, argsB_high (by have := Hc.out; omega) (by have := Hc.out; omega), Hc.out]; simp [argB]
        · simp [be_len]; omega
      · skip
        rw [hc] at m1
        have Hc := Lib.hid hc
        clear hc
        obtain ⟨⟨ak, an, at_, afs⟩, q, rfl, hfit, hpq⟩ : ∃ a q, ra = a :: q ∧ a.fit 115 ∧ properL r q := by
          have := HProp.out
          rw [properL, if_neg (by have := Hc.out; omega), Hc.out] at this
          exact this
        have hj0 : (0 : Int) ≤ (j : Int) := by omega
        have hjl : (j : Int) < (gs.length : Int) := by have := Hra.out; simp at this; omega
        obtain ⟨b, off, a1, c1, ys1, rfl, hpb, e0, e1, e2, e3, x1, x2, x3, x4⟩ := AgsC.at_ HR.out HX.out
        have hb' : ∀ o, (wr.alloc o).heap[b]? = w.heap[b]? := fun o => (Below.heap_alloc _ _ _ (by have := HP.out b hpb; have := HM.out.bel.size; omega)).trans (HM.out.bel.block b (HP.out b hpb))
        have f0 : ∀ o, (wr.alloc o).cell? ⟨b, off + j * 4, none⟩ = some (.int .i64 ak) := fun o => by rw [World.cell?_of_block (w := w) (hb' o)]; exact e0
        have f1 : ∀ o, (wr.alloc o).cell? ⟨b, off + j * 4 + 1, none⟩ = some (.int .u64 an) := fun o => by rw [World.cell?_of_block (w := w) (hb' o)]; exact e1
        have f2 : ∀ o, (wr.alloc o).cell? ⟨b, off + j * 4 + 2, none⟩ = some (.string at_) := fun o => by rw [World.cell?_of_block (w := w) (hb' o)]; exact e2
        have f3 : ∀ o, (wr.alloc o).cell? ⟨b, off + j * 4 + 3, none⟩ = some (.slice a1 afs.len c1) := fun o => by rw [World.cell?_of_block (w := w) (hb' o)]; exact e3
        have m0 : ∀ o, (wr.alloc o).cell? ⟨w.heap.size, 2, none⟩ = some (.slice (some ⟨b, off, none⟩) gs.length c) := fun o => by rw [(HM.out.b0.alloc o).cell]; rfl
        have hao : Ag.ok ⟨ak, an, at_, afs⟩ := Hok.out _ (by rw [HPre.out]; simp)
        have HFit := Lib.hid hfit
        have HAo := Lib.hid hao
        have HPq := Lib.hid hpq
        have HX1 := Lib.hid (And.intro x1 (And.intro x2 x3))
        have HX4 := Lib.hid x4
        clear hb' e0 e1 e2 e3 x1 x2 x3 x4 hfit hpq hao
        have mA := HM.out.alloc (.cells #[.int .i64 ak, .int .u64 an, .string at_, .slice a1 afs.len c1] 45)
        have hA := Blk.new wr 45 #[.int .i64 ak, .int .u64 an, .string at_, .slice a1 afs.len c1]
        have hAn : some wr.heap.size ≠ sv.ownBlock := fun e => by have := (HM.out.buf.row_lt _ e.symm).2; omega
        have hsz := HM.out.size
        have hw5 := HM.out.w5_eq
        have hlo := HM.out.lo_ge
        have Hsz := Lib.hid (And.intro hsz (And.intro hw5 hlo))
        have HMA := Lib.hid mA
        have HA1 := Lib.hid hA
        have hcall := flush_any mA.buf (by have := mA.bel.size; have := mA.buf.lt; omega) mA.bp mA.b3 mA.bh mA.hne mA.hh (by omega)
        have HC := Lib.hid hcall
        clear hcall mA hA hsz hw5 hlo
        go_wp2_with fail
        refine HC.out.mono ?_
        intro e w6 hf
        have hA6 := hf.keep HA1.out (by have := Hsz.out; omega) (by have := Hsz.out; omega) (by have := Hsz.out; omega) hAn
        obtain ⟨rfl, sv1, m6⟩ := HMA.out.flush hf hnh
        have m3 := m6.b3.cell0
        have u1 : w6.cell? ⟨wr.heap.size, 1, none⟩ = some (.int .u64 an) := by rw [hA6.cell]; rfl
        have u2 : w6.cell? ⟨wr.heap.size, 2, none⟩ = some (.string at_) := by rw [hA6.cell]; rfl
        have u3 : w6.cell? ⟨wr.heap.size, 3, none⟩ = some (.slice a1 afs.len c1) := by rw [hA6.cell]; rfl
        have hfl := flushB_len n h
        have HM6 := Lib.hid m6
        clear hf HC hA6
        have hput := put_n an 2 m6.buf (by have := m6.bel.size; have := m6.buf.lt; omega) (by first | omega | exact HAo.out.2.1.1) (by first | omega | exact HAo.out.2.1.2) (by omega) (by rw [List.length_append]; omega)
        have HPut := Lib.hid hput
        clear hput m6
        go_wp2_with fail
        refine HPut.out.mono ?_
        rintro e w7 ⟨rfl, sv7, hb7, hw7⟩
        have HM7 := Lib.hid (HM6.out.call hb7 hw7)
        clear hb7 hw7
        go_wp2_with fail
        refine ⟨⟨k + 1, r, j + 1, q, pre ++ [⟨ak, an, at_, afs⟩], sv7, 0, 0, _, rfl, rfl, Hrl.out, Hr.out, by have := Hra.out; simp at this; omega, ?_, by rw [HPre.out]; simp, HPq.out, ?_, HM7.out, by omega, .inr rfl, ?_⟩, by simp [intOf]; omega⟩
        · rw [show (j + 1) * 4 = j * 4 + 4 by omega]; exact HX4.out
        · rw [← HYs.out, argsB_high (by have := Hc.out; omega) (by have := Hc.out; omega), Hc.out]; simp [argB]
        · simp [be_len]; omega
      · skip
        rw [hc] at m1
        have Hc := Lib.hid hc
        clear hc
        obtain ⟨⟨ak, an, at_, afs⟩, q, rfl, hfit, hpq⟩ : ∃ a q, ra = a :: q ∧ a.fit 108 ∧ properL r q := by
          have := HProp.out
          rw [properL, if_neg (by have := Hc.out; omega), Hc.out] at this
          exact this
        have hj0 : (0 : Int) ≤ (j : Int) := by omega
        have hjl : (j : Int) < (gs.length : Int) := by have := Hra.out; simp at this; omega
        obtain ⟨b, off, a1, c1, ys1, rfl, hpb, e0, e1, e2, e3, x1, x2, x3, x4⟩ := AgsC.at_ HR.out HX.out
        have hb' : ∀ o, (wr.alloc o).heap[b]? = w.heap[b]? := fun o => (Below.heap_alloc _ _ _ (by have := HP.out b hpb; have := HM.out.bel.size; omega)).trans (HM.out.bel.block b (HP.out b hpb))
        have f0 : ∀ o, (wr.alloc o).cell? ⟨b, off + j * 4, none⟩ = some (.int .i64 ak) := fun o => by rw [World.cell?_of_block (w := w) (hb' o)]; exact e0
        have f1 : ∀ o, (wr.alloc o).cell? ⟨b, off + j * 4 + 1, none⟩ = some (.int .u64 an) := fun o => by rw [World.cell?_of_block (w := w) (hb' o)]; exact e1
        have f2 : ∀ o, (wr.alloc o).cell? ⟨b, off + j * 4 + 2, none⟩ = some (.string at_) := fun o => by rw [World.cell?_of_block (w := w) (hb' o)]; exact e2
        have f3 : ∀ o, (wr.alloc o).cell? ⟨b, off + j * 4 + 3, none⟩ = some (.slice a1 afs.len c1) := fun o => by rw [World.cell?_of_block (w := w) (hb' o)]; exact e3
        have m0 : ∀ o, (wr.alloc o).cell? ⟨w.heap.size, 2, none⟩ = some (.slice (some ⟨b, off, none⟩) gs.length c) := fun o => by rw [(HM.out.b0.alloc o).cell]; rfl
        have hao : Ag.ok ⟨ak, an, at_, afs⟩ := Hok.out _ (by rw [HPre.out]; simp)
        have HFit := Lib.hid hfit
        have HAo := Lib.hid hao
        have HPq := Lib.hid hpq
        have HX1 := Lib.hid (And.intro x1 (And.intro x2 x3))
        have HX4 := Lib.hid x4
        clear hb' e0 e1 e2 e3 x1 x2 x3 x4 hfit hpq hao
        have mA := HM.out.alloc (.cells #[.int .i64 ak, .int .u64 an, .string at_, .slice a1 afs.len c1] 45)
        have hA := Blk.new wr 45 #[.int .i64 ak, .int .u64 an, .string at_, .slice a1 afs.len c1]
        have hAn : some wr.heap.size ≠ sv.ownBlock := fun e => by have := (HM.out.buf.row_lt _ e.symm).2; omega
        have hsz := HM.out.size
        have hw5 := HM.out.w5_eq
        have hlo := HM.out.lo_ge
        have Hsz := Lib.hid (And.intro hsz (And.intro hw5 hlo))
        have HMA := Lib.hid mA
        have HA1 := Lib.hid hA
        have hcall := flush_any mA.buf (by have := mA.bel.size; have := mA.buf.lt; omega) mA.bp mA.b3 mA.bh mA.hne mA.hh (by omega)
        have HC := Lib.hid hcall
        clear hcall mA hA hsz hw5 hlo
        go_wp2_with fail
        refine HC.out.mono ?_
        intro e w6 hf
        have hA6 := hf.keep HA1.out (by have := Hsz.out; omega) (by have := Hsz.out; omega) (by have := Hsz.out; omega) hAn
        obtain ⟨rfl, sv1, m6⟩ := HMA.out.flush hf hnh
        have m3 := m6.b3.cell0
        have u1 : w6.cell? ⟨wr.heap.size, 1, none⟩ = some (.int .u64 an) := by rw [hA6.cell]; rfl
        have u2 : w6.cell? ⟨wr.heap.size, 2, none⟩ = some (.string at_) := by rw [hA6.cell]; rfl
        have u3 : w6.cell? ⟨wr.heap.size, 3, none⟩ = some (.slice a1 afs.len c1) := by rw [hA6.cell]; rfl
        have hfl := flushB_len n h
        have HM6 := Lib.hid m6
        clear hf HC hA6
        have hput := put_n an 4 m6.buf (by have := m6.bel.size; have := m6.buf.lt; omega) (by first | omega | exact HAo.out.2.1.1) (by first | omega | exact HAo.out.2.1.2) (by omega) (by rw [List.length_append]; omega)
        have HPut := Lib.hid hput
        clear hput m6
        go_wp2_with fail
        refine HPut.out.mono ?_
        rintro e w7 ⟨rfl, sv7, hb7, hw7⟩
        have HM7 := Lib.hid (HM6.out.call hb7 hw7)
        clear hb7 hw7
        go_wp2_with fail
        refine ⟨⟨k + 1, r, j + 1, q, pre ++ [⟨ak, an, at_, afs⟩], sv7, 0, 0, _, rfl, rfl, Hrl.out, Hr.out, by have := Hra.out; simp at this; omega, ?_, by rw [HPre.out]; simp, HPq.out, ?_, HM7.out, by omega, .inr rfl, ?_⟩, by simp [intOf]; omega⟩
        · rw [show (j + 1) * 4 = j * 4 + 4 by omega]; exact HX4.out
        · rw [← HYs.out, argsB_high (by have := Hc.out; omega) (by have := Hc.out; omega), Hc.out]; simp [argB]
        · simp [be_len]; omega
      · skip
        rw [hc] at m1
        have Hc := Lib.hid hc
        clear hc
        obtain ⟨⟨ak, an, at_, afs⟩, q, rfl, hfit, hpq⟩ : ∃ a q, ra = a :: q ∧ a.fit 113 ∧ properL r q := by
          have := HProp.out
          rw [properL, if_neg (by have := Hc.out; omega), Hc.out] at this
          exact this
        have hj0 : (0 : Int) ≤ (j : Int) := by omega
        have hjl : (j : Int) < (gs.length : Int) := by have := Hra.out; simp at this; omega
        obtain ⟨b, off, a1, c1, ys1, rfl, hpb, e0, e1, e2, e3, x1, x2, x3, x4⟩ := AgsC.at_ HR.out HX.out
        have hb' : ∀ o, (wr.alloc o).heap[b]? = w.heap[b]? := fun o => (Below.heap_alloc _ _ _ (by have := HP.out b hpb; have := HM.out.bel.size; omega)).trans (HM.out.bel.block b (HP.out b hpb))
        have f0 : ∀ o, (wr.alloc o).cell? ⟨b, off + j * 4, none⟩ = some (.int .i64 ak) := fun o => by rw [World.cell?_of_block (w := w) (hb' o)]; exact e0
        have f1 : ∀ o, (wr.alloc o).cell? ⟨b, off + j * 4 + 1, none⟩ = some (.int .u64 an) := fun o => by rw [World.cell?_of_block (w := w) (hb' o)]; exact e1
        have f2 : ∀ o, (wr.alloc o).cell? ⟨b, off + j * 4 + 2, none⟩ = some (.string at_) := fun o => by rw [World.cell?_of_block (w := w) (hb' o)]; exact e2
        have f3 : ∀ o, (wr.alloc o).cell? ⟨b, off + j * 4 + 3, none⟩ = some (.slice a1 afs.len c1) := fun o => by rw [World.cell?_of_block (w := w) (hb' o)]; exact e3
        have m0 : ∀ o, (wr.alloc o).cell? ⟨w.heap.size, 2, none⟩ = some (.slice (some ⟨b, off, none⟩) gs.length c) := fun o => by rw [(HM.out.b0.alloc o).cell]; rfl
        have hao : Ag.ok ⟨ak, an, at_, afs⟩ := Hok.out _ (by rw [HPre.out]; simp)
        have HFit := Lib.hid hfit
        have HAo := Lib.hid hao
        have HPq := Lib.hid hpq
        have HX1 := Lib.hid (And.intro x1 (And.intro x2 x3))
        have HX4 := Lib.hid x4
        clear hb' e0 e1 e2 e3 x1 x2 x3 x4 hfit hpq hao
        have mA := HM.out.alloc (.cells #[.int .i64 ak, .int .u64 an, .string at_, .slice a1 afs.len c1] 45)
        have hA := Blk.new wr 45 #[.int .i64 ak, .int .u64 an, .string at_, .slice a1 afs.len c1]
        have hAn : some wr.heap.size ≠ sv.ownBlock := fun e => by have := (HM.out.buf.row_lt _ e.symm).2; omega
        have hsz := HM.out.size
        have hw5 := HM.out.w5_eq
        have hlo := HM.out.lo_ge
        have Hsz := Lib.hid (And.intro hsz (And.intro hw5 hlo))
        have HMA := Lib.hid mA
        have HA1 := Lib.hid hA
        have hcall := flush_any mA.buf (by have := mA.bel.size; have := mA.buf.lt; omega) mA.bp mA.b3 mA.bh mA.hne mA.hh (by omega)
        have HC := Lib.hid hcall
        clear hcall mA hA hsz hw5 hlo
        go_wp2_with fail
        refine HC.out.mono ?_
        intro e w6 hf
        have hA6 := hf.keep HA1.out (by have := Hsz.out; omega) (by have := Hsz.out; omega) (by have := Hsz.out; omega) hAn
        obtain ⟨rfl, sv1, m6⟩ := HMA.out.flush hf hnh
        have m3 := m6.b3.cell0
        have u1 : w6.cell? ⟨wr.heap.size, 1, none⟩ = some (.int .u64 an) := by rw [hA6.cell]; rfl
        have u2 : w6.cell? ⟨wr.heap.size, 2, none⟩ = some (.string at_) := by rw [hA6.cell]; rfl
        have u3 : w6.cell? ⟨wr.heap.size, 3, none⟩ = some (.slice a1 afs.len c1) := by rw [hA6.cell]; rfl
        have hfl := flushB_len n h
        have HM6 := Lib.hid m6
        clear hf HC hA6
        have hput := put_n an 8 m6.buf (by have := m6.bel.size; have := m6.buf.lt; omega) (by first | omega | exact HAo.out.2.1.1) (by first | omega | exact HAo.out.2.1.2) (by omega) (by rw [List.length_append]; omega)
        have HPut := Lib.hid hput
        clear hput m6
        go_wp2_with fail
        refine HPut.out.mono ?_
        rintro e w7 ⟨rfl, sv7, hb7, hw7⟩
        have HM7 := Lib.hid (HM6.out.call hb7 hw7)
        clear hb7 hw7
        go_wp2_with fail
        refine ⟨⟨k + 1, r, j + 1, q, pre ++ [⟨ak, an, at_, afs⟩], sv7, 0, 0, _, rfl, rfl, Hrl.out, Hr.out, by have := Hra.out; simp at this; omega, ?_, by rw [HPre.out]; simp, HPq.out, ?_, HM7.out, by omega, .inr rfl, ?_⟩, by simp [intOf]; omega⟩
        · rw [show (j + 1) * 4 = j * 4 + 4 by omega]; exact HX4.out
        · rw [← HYs.out, argsB_high (by have := Hc.out; omega) (by have := Hc.out; omega), Hc.out]; simp [argB]
        · simp [be_len]; omega
      · skip
        rw [hc] at m1
        have Hc := Lib.hid hc
        clear hc
        obtain ⟨⟨ak, an, at_, afs⟩, q, rfl, hfit, hpq⟩ : ∃ a q, ra = a :: q ∧ a.fit 83 ∧ properL r q := by
          have := HProp.out
          rw [properL, if_neg (by have := Hc.out; omega), Hc.out] at this
          exact this
        have hj0 : (0 : Int) ≤ (j : Int) := by omega
        have hjl : (j : Int) < (gs.length : Int) := by have := Hra.out; simp at this; omega
        obtain ⟨b, off, a1, c1, ys1, rfl, hpb, e0, e1, e2, e3, x1, x2, x3, x4⟩ := AgsC.at_ HR.out HX.out
        have hb' : ∀ o, (wr.alloc o).heap[b]? = w.heap[b]? := fun o => (Below.heap_alloc _ _ _ (by have := HP.out b hpb; have := HM.out.bel.size; omega)).trans (HM.out.bel.block b (HP.out b hpb))
        have f0 : ∀ o, (wr.alloc o).cell? ⟨b, off + j * 4, none⟩ = some (.int .i64 ak) := fun o => by rw [World.cell?_of_block (w := w) (hb' o)]; exact e0
        have f1 : ∀ o, (wr.alloc o).cell? ⟨b, off + j * 4 + 1, none⟩ = some (.int .u64 an) := fun o => by rw [World.cell?_of_block (w := w) (hb' o)]; exact e1
        have f2 : ∀ o, (wr.alloc o).cell? ⟨b, off + j * 4 + 2, none⟩ = some (.string at_) := fun o => by rw [World.cell?_of_block (w := w) (hb' o)]; exact e2
        have f3 : ∀ o, (wr.alloc o).cell? ⟨b, off + j * 4 + 3, none⟩ = some (.slice a1 afs.len c1) := fun o => by rw [World.cell?_of_block (w := w) (hb' o)]; exact e3
        have m0 : ∀ o, (wr.alloc o).cell? ⟨w.heap.size, 2, none⟩ = some (.slice (some ⟨b, off, none⟩) gs.length c) := fun o => by rw [(HM.out.b0.alloc o).cell]; rfl
        have hao : Ag.ok ⟨ak, an, at_, afs⟩ := Hok.out _ (by rw [HPre.out]; simp)
        have HFit := Lib.hid hfit
        have HAo := Lib.hid hao
        have HPq := Lib.hid hpq
        have HX1 := Lib.hid (And.intro x1 (And.intro x2 x3))
        have HX4 := Lib.hid x4
        clear hb' e0 e1 e2 e3 x1 x2 x3 x4 hfit hpq hao
        have mA := HM.out.alloc (.cells #[.int .i64 ak, .int .u64 an, .string at_, .slice a1 afs.len c1] 45)
        have hA := Blk.new wr 45 #[.int .i64 ak, .int .u64 an, .string at_, .slice a1 afs.len c1]
        have hAn : some wr.heap.size ≠ sv.ownBlock := fun e => by have := (HM.out.buf.row_lt _ e.symm).2; omega
        have hsz := HM.out.size
        have hw5 := HM.out.w5_eq
        have hlo := HM.out.lo_ge
        have Hsz := Lib.hid (And.intro hsz (And.intro hw5 hlo))
        have HMA := Lib.hid mA
        have HA1 := Lib.hid hA
        have hcall := flush_any mA.buf (by have := mA.bel.size; have := mA.buf.lt; omega) mA.bp mA.b3 mA.bh mA.hne mA.hh (by omega)
        have HC := Lib.hid hcall
        clear hcall mA hA hsz hw5 hlo
        go_wp2_with fail
        refine HC.out.mono ?_
        intro e w6 hf
        have hA6 := hf.keep HA1.out (by have := Hsz.out; omega) (by have := Hsz.out; omega) (by have := Hsz.out; omega) hAn
        obtain ⟨rfl, sv1, m6⟩ := HMA.out.flush hf hnh
        have m3 := m6.b3.cell0
        have u1 : w6.cell? ⟨wr.heap.size, 1, none⟩ = some (.int .u64 an) := by rw [hA6.cell]; rfl
        have u2 : w6.cell? ⟨wr.heap.size, 2, none⟩ = some (.string at_) := by rw [hA6.cell]; rfl
        have u3 : w6.cell? ⟨wr.heap.size, 3, none⟩ = some (.slice a1 afs.len c1) := by rw [hA6.cell]; rfl
        have hfl := flushB_len n h
        have HM6 := Lib.hid m6
        clear hf HC hA6
        have hput := short_any at_ m6.buf (by have := m6.bel.size; have := m6.buf.lt; omega) (by have := HFit.out.2.2; simp only at this; omega) (by rw [List.length_append]; omega)
        have HPut := Lib.hid hput
        clear hput m6
        go_wp2_with fail
        refine HPut.out.mono ?_
        rintro e w7 ⟨rfl, sv7, hb7, hw7⟩
        have HM7 := Lib.hid (HM6.out.call hb7 hw7)
        clear hb7 hw7
        go_wp2_with fail
        refine ⟨⟨k + 1, r, j + 1, q, pre ++ [⟨ak, an, at_, afs⟩], sv7, 0, 0, _, rfl, rfl, Hrl.out, Hr.out, by have := Hra.out; simp at this; omega, ?_, by rw [HPre.out]; simp, HPq.out, ?_, HM7.out, by omega, .inr rfl, ?_⟩, by simp [intOf]; omega⟩
        · rw [show (j + 1) * 4 = j * 4 + 4 by omega]; exact HX4.out
        · rw [← HYs.out, argsB_high (by have := Hc.out; omega) (by have := Hc.out; omega), Hc.out]; simp [argB]
        · have := HFit.out.2.2; simp only at this; have e : at_.data.size = at_.size := rfl; simp [be_len, e]; omega
      · skip
        rw [hc] at m1
        have Hc := Lib.hid hc
        clear hc
        obtain ⟨⟨ak, an, at_, afs⟩, q, rfl, hfit, hpq⟩ : ∃ a q, ra = a :: q ∧ a.fit 76 ∧ properL r q := by
          have := HProp.out
          rw [properL, if_neg (by have := Hc.out; omega), Hc.out] at this
          exact this
        have hj0 : (0 : Int) ≤ (j : Int) := by omega
        have hjl : (j : Int) < (gs.length : Int) := by have := Hra.out; simp at this; omega
        obtain ⟨b, off, a1, c1, ys1, rfl, hpb, e0, e1, e2, e3, x1, x2, x3, x4⟩ := AgsC.at_ HR.out HX.out
        have hb' : ∀ o, (wr.alloc o).heap[b]? = w.heap[b]? := fun o => (Below.heap_alloc _ _ _ (by have := HP.out b hpb; have := HM.out.bel.size; omega)).trans (HM.out.bel.block b (HP.out b hpb))
        have f0 : ∀ o, (wr.alloc o).cell? ⟨b, off + j * 4, none⟩ = some (.int .i64 ak) := fun o => by rw [World.cell?_of_block (w := w) (hb' o)]; exact e0
        have f1 : ∀ o, (wr.alloc o).cell? ⟨b, off + j * 4 + 1, none⟩ = some (.int .u64 an) := fun o => by rw [World.cell?_of_block (w := w) (hb' o)]; exact e1
        have f2 : ∀ o, (wr.alloc o).cell? ⟨b, off + j * 4 + 2, none⟩ = some (.string at_) := fun o => by rw [World.cell?_of_block (w := w) (hb' o)]; exact e2
        have f3 : ∀ o, (wr.alloc o).cell? ⟨b, off + j * 4 + 3, none⟩ = some (.slice a1 afs.len c1) := fun o => by rw [World.cell?_of_block (w := w) (hb' o)]; exact e3
        have m0 : ∀ o, (wr.alloc o).cell? ⟨w.heap.size, 2, none⟩ = some (.slice (some ⟨b, off, none⟩) gs.length c) := fun o => by rw [(HM.out.b0.alloc o).cell]; rfl
        have hao : Ag.ok ⟨ak, an, at_, afs⟩ := Hok.out _ (by rw [HPre.out]; simp)
        have HFit := Lib.hid hfit
        have HAo := Lib.hid hao
        have HPq := Lib.hid hpq
        have HX1 := Lib.hid (And.intro x1 (And.intro x2 x3))
        have HX4 := Lib.hid x4
        clear hb' e0 e1 e2 e3 x1 x2 x3 x4 hfit hpq hao
        have mA := HM.out.alloc (.cells #[.int .i64 ak, .int .u64 an, .string at_, .slice a1 afs.len c1] 45)
        have hA := Blk.new wr 45 #[.int .i64 ak, .int .u64 an, .string at_, .slice a1 afs.len c1]
        have hAn : some wr.heap.size ≠ sv.ownBlock := fun e => by have := (HM.out.buf.row_lt _ e.symm).2; omega
        have hsz := HM.out.size
        have hw5 := HM.out.w5_eq
        have hlo := HM.out.lo_ge
        have Hsz := Lib.hid (And.intro hsz (And.intro hw5 hlo))
        have HMA := Lib.hid mA
        have HA1 := Lib.hid hA
        have hcall := flush_any mA.buf (by have := mA.bel.size; have := mA.buf.lt; omega) mA.bp mA.b3 mA.bh mA.hne mA.hh (by omega)
        have HC := Lib.hid hcall
        clear hcall mA hA hsz hw5 hlo
        go_wp2_with fail
        refine HC.out.mono ?_
        intro e w6 hf
        have hA6 := hf.keep HA1.out (by have := Hsz.out; omega) (by have := Hsz.out; omega) (by have := Hsz.out; omega) hAn
        obtain ⟨rfl, sv1, m6⟩ := HMA.out.flush hf hnh
        have m3 := m6.b3.cell0
        have u1 : w6.cell? ⟨wr.heap.size, 1, none⟩ = some (.int .u64 an) := by rw [hA6.cell]; rfl
        have u2 : w6.cell? ⟨wr.heap.size, 2, none⟩ = some (.string at_) := by rw [hA6.cell]; rfl
        have u3 : w6.cell? ⟨wr.heap.size, 3, none⟩ = some (.slice a1 afs.len c1) := by rw [hA6.cell]; rfl
        have hfl := flushB_len n h
        have HM6 := Lib.hid m6
        clear hf HC hA6
        have hput := long_any at_ m6.buf (by have := m6.bel.size; have := m6.buf.lt; omega) (by have := HFit.out.2.2; simp only at this; omega) (by rw [List.length_append]; omega)
        have HPut := Lib.hid hput
        clear hput m6
        go_wp2_with fail
        refine HPut.out.mono ?_
        rintro e w7 ⟨rfl, sv7, hb7, hw7⟩
        have HM7 := Lib.hid (HM6.out.call hb7 hw7)
        clear hb7 hw7
        go_wp2_with fail
        refine ⟨⟨k + 1, r, j + 1, q, pre ++ [⟨ak, an, at_, afs⟩], sv7, 0, 0, _, rfl, rfl, Hrl.out, Hr.out, by have := Hra.out; simp at this; omega, ?_, by rw [HPre.out]; simp, HPq.out, ?_, HM7.out, by omega, .inr rfl, ?_⟩, by simp [intOf]; omega⟩
        · rw [show (j + 1) * 4 = j * 4 + 4 by omega]; exact HX4.out
        · rw [← HYs.out, argsB_high (by have := Hc.out; omega) (by have := Hc.out; omega), Hc.out]; simp [argB]
        · have := HFit.out.2.2; simp only at this; have e : at_.data.size = at_.size := rfl; simp [be_len, e]; omega
      · skip
        rw [hc] at m1
        have Hc := Lib.hid hc
        clear hc
        obtain ⟨⟨ak, an, at_, afs⟩, q, rfl, hfit, hpq⟩ : ∃ a q, ra = a :: q ∧ a.fit 116 ∧ properL r q := by
          have := HProp.out
          rw [properL, if_neg (by have := Hc.out; omega), Hc.out] at this
          exact this
        have hj0 : (0 : Int) ≤ (j : Int) := by omega
        have hjl : (j : Int) < (gs.length : Int) := by have := Hra.out; simp at this; omega
        obtain ⟨b, off, a1, c1, ys1, rfl, hpb, e0, e1, e2, e3, x1, x2, x3, x4⟩ := AgsC.at_ HR.out HX.out
        have hb' : ∀ o, (wr.alloc o).heap[b]? = w.heap[b]? := fun o => (Below.heap_alloc _ _ _ (by have := HP.out b hpb; have := HM.out.bel.size; omega)).trans (HM.out.bel.block b (HP.out b hpb))
        have f0 : ∀ o, (wr.alloc o).cell? ⟨b, off + j * 4, none⟩ = some (.int .i64 ak) := fun o => by rw [World.cell?_of_block (w := w) (hb' o)]; exact e0
        have f1 : ∀ o, (wr.alloc o).cell? ⟨b, off + j * 4 + 1, none⟩ = some (.int .u64 an) := fun o => by rw [World.cell?_of_block (w := w) (hb' o)]; exact e1
        have f2 : ∀ o, (wr.alloc o).cell? ⟨b, off + j * 4 + 2, none⟩ = some (.string at_) := fun o => by rw [World.cell?_of_block (w := w) (hb' o)]; exact e2
        have f3 : ∀ o, (wr.alloc o).cell? ⟨b, off + j * 4 + 3, none⟩ = some (.slice a1 afs.len c1) := fun o => by rw [World.cell?_of_block (w := w) (hb' o)]; exact e3
        have m0 : ∀ o, (wr.alloc o).cell? ⟨w.heap.size, 2, none⟩ = some (.slice (some ⟨b, off, none⟩) gs.length c) := fun o => by rw [(HM.out.b0.alloc o).cell]; rfl
        have hao : Ag.ok ⟨ak, an, at_, afs⟩ := Hok.out _ (by rw [HPre.out]; simp)
        have HFit := Lib.hid hfit
        have HAo := Lib.hid hao
        have HPq := Lib.hid hpq
        have HX1 := Lib.hid (And.intro x1 (And.intro x2 x3))
        have HX4 := Lib.hid x4
        clear hb' e0 e1 e2 e3 x1 x2 x3 x4 hfit hpq hao
        have mA := HM.out.alloc (.cells #[.int .i64 ak, .int .u64 an, .string at_, .slice a1 afs.len c1] 45)
        have hA := Blk.new wr 45 #[.int .i64 ak, .int .u64 an, .string at_, .slice a1 afs.len c1]
        have hAn : some wr.heap.size ≠ sv.ownBlock := fun e => by have := (HM.out.buf.row_lt _ e.symm).2; omega
        have hsz := HM.out.size
        have hw5 := HM.out.w5_eq
        have hlo := HM.out.lo_ge
        have Hsz := Lib.hid (And.intro hsz (And.intro hw5 hlo))
        have HMA := Lib.hid mA
        have HA1 := Lib.hid hA
        have hcall := flush_any mA.buf (by have := mA.bel.size; have := mA.buf.lt; omega) mA.bp mA.b3 mA.bh mA.hne mA.hh (by omega)
        have HC := Lib.hid hcall
        clear hcall mA hA hsz hw5 hlo
        go_wp2_with fail
        refine HC.out.mono ?_
        intro e w6 hf
        have hA6 := hf.keep HA1.out (by have := Hsz.out; omega) (by have := Hsz.out; omega) (by have := Hsz.out; omega) hAn
        obtain ⟨rfl, sv1, m6⟩ := HMA.out.flush hf hnh
        have m3 := m6.b3.cell0
        have u1 : w6.cell? ⟨wr.heap.size, 1, none⟩ = some (.int .u64 an) := by rw [hA6.cell]; rfl
        have u2 : w6.cell? ⟨wr.heap.size, 2, none⟩ = some (.string at_) := by rw [hA6.cell]; rfl
        have u3 : w6.cell? ⟨wr.heap.size, 3, none⟩ = some (.slice a1 afs.len c1) := by rw [hA6.cell]; rfl
        have hfl := flushB_len n h
        have HM6 := Lib.hid m6
        clear hf HC hA6
        obtain ⟨r', hr'⟩ := HFit.out.2
        have hgd := Fs.fit_good afs 6 none 2000 r' (by omega) hr'
        have hen : afs.enc.length ≤ 20000 := by have := hgd.2.1; have := hgd.2.2 (by omega); omega
        have hput := spec_tab afs.ht afs none a1 c1 ys1 p (w.heap.size + 1) (w.heap.size + 1 + 1) sv1 _ w6 (Nat.le_refl _) hgd.1 HAo.out.2.2.2.1 HAo.out.2.2.2.2 (HX1.out.1.keep (fun g hg => m6.bel.block g (HP.out g hg))) (HX1.out.2.1.keep (fun g hg => m6.bel.block g (HP.out g hg))) HX1.out.2.2 m6.buf (by have := m6.bel.size; have := m6.buf.lt; omega)
          (fun g hg => by have := HP.out g hg; exact ⟨by have := m6.bel.size; omega, by omega, fun e => by have := (m6.buf.row_lt g e.symm).1; omega⟩) (by omega) (by rw [List.length_append]; omega)
        have Hen := Lib.hid hen
        clear hr' hgd hen
        have HPut := Lib.hid hput
        clear hput m6
        go_wp2_with fail
        refine HPut.out.mono ?_
        rintro e w7 ⟨rfl, sv7, hb7, hw7⟩
        have HM7 := Lib.hid (HM6.out.call hb7 hw7)
        clear hb7 hw7
        go_wp2_with fail
        refine ⟨⟨k + 1, r, j + 1, q, pre ++ [⟨ak, an, at_, afs⟩], sv7, 0, 0, _, rfl, rfl, Hrl.out, Hr.out, by have := Hra.out; simp at this; omega, ?_, by rw [HPre.out]; simp, HPq.out, ?_, HM7.out, by omega, .inr rfl, ?_⟩, by simp [intOf]; omega⟩
        · rw [show (j + 1) * 4 = j * 4 + 4 by omega]; exact HX4.out
        · rw [← HYs.out, argsB_high (by have := Hc.out; omega) (by have := Hc.out; omega), Hc.out]; simp [argB]
        · have := Hen.out; simp [tab, be_len]; omega

end Go.Proofs.YtabeppaehenefaaGreat
