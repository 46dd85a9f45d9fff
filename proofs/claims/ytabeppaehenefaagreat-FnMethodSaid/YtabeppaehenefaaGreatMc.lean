/-
  FnMethod: which methods are proper ones.
-/
import Derived.Test.YtabeppaehenefaaGreatMb
import Derived.Test.YtabeppaehenefaaGreatIa
namespace Go.Proofs.YtabeppaehenefaaGreat
open Go.RowKit
attribute [local go_sem ↓] Go.wp_at_zero Go.wp_at_succ

set_option maxRecDepth 100000 in
set_option maxHeartbeats 4000000 in
theorem arg_116 (a : Ag) (A : Option Addr) (c : Nat) (xs : List Value) (p : Nat → Prop) (w : World) (hok : a.ok) (hR : Rd w p A xs) (hF : FsC w p a.fs xs) (hc : a.fs.len ≤ c) (hp : ∀ g, p g → g < w.heap.size) :
    Calls Tryz.prog 13 #[.int .u8 116, .agg #[.int .i64 a.k, .int .u64 a.n, .string a.t, .slice A a.fs.len c]] w (ArgPost 116 a w) := by
  obtain ⟨k, n, t, fs⟩ := a
  obtain ⟨⟨k1, k2⟩, ⟨n1, n2⟩, t1, f1, f2⟩ := hok
  simp only at k1 k2 n1 n2 t1 f2 hF hc ⊢
  have hb : Below w.heap.size w (w.alloc (.cells #[.int .i64 k, .int .u64 n, .string t, .slice A fs.len c] 45)) := (Below.refl _ _).alloc (Nat.le_refl _) _
  have hkk : ∀ g, p g → (w.alloc (.cells #[.int .i64 k, .int .u64 n, .string t, .slice A fs.len c] 45)).heap[g]? = w.heap[g]? := fun g hg => Below.heap_alloc _ _ _ (hp g hg)
  have hcall := Fits_any fs A c xs p (w.alloc (.cells #[.int .i64 k, .int .u64 n, .string t, .slice A fs.len c] 45)) f1 f2 (hR.keep hkk) (hF.keep hkk) hc (fun g hg => by have := hp g hg; simp; omega)
  have HB := Lib.hid hb
  have HC := Lib.hid hcall
  clear hb hcall hkk hR hF hc hp
  have hfs : (fs.len : Int) = 0 ∨ 0 < (fs.len : Int) := by omega
  have hne : t.toList.isEmpty = true ∨ t.toList.isEmpty = false := by cases t.toList.isEmpty <;> simp
  have hn0 : n = 0 ∨ n ≠ 0 := by omega
  have hk0 : k = 7 ∨ k ≠ 7 := by omega
  generalize hlen : (fs.len : Int) = L at hfs ⊢
  rcases hfs with rfl | hfs <;> rcases hne with hne | hne <;> rcases hn0 with rfl | hn <;> rcases hk0 with rfl | hk
  all_goals go_enter Tryz.func13, Tryz.ntmps13
  all_goals go_wp2_with fail
  all_goals try
    (refine HC.out.mono ?_
     rintro e w1 ⟨b, rfl, h1, h2⟩
     have HB2 := Lib.hid (HB.out.trans (h1.mono HB.out.size))
     have H2 := Lib.hid h2
     clear h1 h2
     cases b)
  all_goals try go_wp2_with fail
  all_goals try go_ret
  all_goals first
    | exact arg_false _ _ HB.out
    | exact arg_false _ _ HB2.out
    | (refine arg_true HB2.out ?_; exact ⟨rfl, by have := H2.out; simpa using this⟩)

/-- the letters that arguments have -/
def isArg (c : UInt8) : Bool := c.toNat < 65 || [98, 111, 115, 108, 113, 83, 76, 116].contains c.toNat
theorem known_args : known.all (fun m => m.2.2.all isArg) = true := by decide
theorem known_short : known.all (fun m => decide (m.2.2.length ≤ 20)) = true := by decide
theorem letters_len {cl me : Int} {ls : List UInt8} (h : letters cl me = some ls) : ls.length ≤ 20 := by
  unfold letters at h
  obtain ⟨m, hm, rfl⟩ := Option.map_eq_some_iff.1 h
  exact of_decide_eq_true (List.all_eq_true.1 known_short m (List.mem_of_find?_eq_some hm))
theorem letters_args {cl me : Int} {ls : List UInt8} (h : letters cl me = some ls) : ∀ c ∈ ls, isArg c = true := by
  unfold letters at h
  obtain ⟨m, hm, rfl⟩ := Option.map_eq_some_iff.1 h
  have h1 := List.all_eq_true.1 known_args m (List.mem_of_find?_eq_some hm)
  exact List.all_eq_true.1 h1

theorem properArg_any (l : UInt8) (hl : isArg l = true) (h65 : 65 ≤ l.toNat) (a : Ag) (A : Option Addr) (c : Nat) (xs : List Value) (p : Nat → Prop) (w : World) (hok : a.ok) (hR : Rd w p A xs) (hF : FsC w p a.fs xs) (hc : a.fs.len ≤ c) (hp : ∀ g, p g → g < w.heap.size) :
    Calls Tryz.prog 13 #[.int .u8 l.toNat, .agg #[.int .i64 a.k, .int .u64 a.n, .string a.t, .slice A a.fs.len c]] w (ArgPost l.toNat a w) := by
  have h : l.toNat = 98 ∨ l.toNat = 111 ∨ l.toNat = 115 ∨ l.toNat = 108 ∨ l.toNat = 113 ∨ l.toNat = 83 ∨ l.toNat = 76 ∨ l.toNat = 116 := by
    simp [isArg] at hl
    omega
  rcases h with h | h | h | h | h | h | h | h <;> rw [h]
  · exact arg_98 a A c w hok
  · exact arg_111 a A c w hok
  · exact arg_115 a A c w hok
  · exact arg_108 a A c w hok
  · exact arg_113 a A c w hok
  · exact arg_83 a A c w hok
  · exact arg_76 a A c w hok
  · exact arg_116 a A c xs p w hok hR hF hc hp

/-- the arguments are those of the letters -/
def properL : List UInt8 → List Ag → Prop
  | [], gs => gs = []
  | c :: r, gs => if c.toNat < 65 then properL r gs else ∃ a q, gs = a :: q ∧ a.fit c.toNat ∧ properL r q

def ProperPost (cl me : Int) (gs : List Ag) (w : World) (e : Ending) (w' : World) : Prop := ∃ b : Bool, e = .returned (.bool b) ∧ Below w.heap.size w w' ∧ (b = true → ∃ ls, letters cl me = some ls ∧ properL ls gs)

set_option maxRecDepth 100000 in
set_option maxHeartbeats 4000000 in
/-- spec.ProperMethod -/
theorem ProperMethod_any (cl me : Int) (gs : List Ag) (A : Option Addr) (c : Nat) (xs : List Value) (p : Nat → Prop) (w : World) (hok : ∀ a ∈ gs, a.ok) (hlen : gs.length ≤ 2147483647) (hR : Rd w p A xs) (hA : AgsC w p gs xs) (hp : ∀ g, p g → g < w.heap.size) :
    Calls Tryz.prog 6 #[.agg #[.int .i64 cl, .int .i64 me, .slice A gs.length c]] w (ProperPost cl me gs w) := by
  have HR := Lib.hid hR
  have HA := Lib.hid hA
  have Hok := Lib.hid hok
  have HP := Lib.hid hp
  clear hR hA hok hp
  have hL := Letters_any cl me (w.alloc (.cells #[.int .i64 cl, .int .i64 me, .slice A gs.length c] 28))
  have hbel0 : Below w.heap.size w (w.alloc (.cells #[.int .i64 cl, .int .i64 me, .slice A gs.length c] 28)) := (Below.refl _ _).alloc (Nat.le_refl _) _
  have hb0 := Blk.new w 28 #[.int .i64 cl, .int .i64 me, .slice A gs.length c]
  cases hls : letters cl me with
  | none =>
    rw [hls] at hL
    have HL := Lib.hid hL
    have HB := Lib.hid hbel0
    clear hL hbel0
    go_enter Tryz.func6, Tryz.ntmps6
    go_wp2_with fail
    refine HL.out.mono ?_
    rintro e w1 ⟨rfl, h1⟩
    have HB2 := Lib.hid (HB.out.trans (h1.mono HB.out.size))
    clear h1
    go_wp2
    go_ret
    exact ⟨false, rfl, HB2.out, fun h => nomatch h⟩
  | some ls =>
    rw [hls] at hL
    simp only [Option.getD_some, Option.isSome_some] at hL
    have HL := Lib.hid hL
    have HB := Lib.hid hbel0
    have hcs := letters_args hls
    have hll := letters_len hls
    have HCs := Lib.hid hcs
    have HLs := Lib.hid hls
    have HB0 := Lib.hid hb0
    clear hL hbel0 hls hcs hb0
    go_enter Tryz.func6, Tryz.ntmps6
    go_wp2_with fail
    refine HL.out.mono ?_
    rintro e w1 ⟨rfl, h1⟩
    obtain ⟨c2, w2, hrun, hc2, -, hbel2, hsz2, hcell⟩ := conv_bytes w1 ⟨ls.toArray⟩ 9 Tryz.underlying9
    rw [show (⟨ls.toArray⟩ : ByteArray).size = ls.length from rfl] at hrun hcell hc2
    have hb1 := HB0.out.below h1 (by simp)
    have hb2 := hb1.below hbel2 hb1.lt
    have HBel2 := Lib.hid ((HB.out.trans (h1.mono HB.out.size)).trans (hbel2.mono (HB.out.trans (h1.mono HB.out.size)).size))
    have HCell := Lib.hid hcell
    have hsz1 := h1.size
    simp only [World.size_alloc] at hsz1
    clear h1 hcell hb1 hbel2
    go_wp2_with fail
    clear hrun
    go_loopw [21, 5] (fun i nx wr => ∃ (k : Nat) (rest : List UInt8) (j : Nat) (ra pre : List Ag), i = .int .i64 k ∧ nx = .int .i64 j ∧ rest.length + k = ls.length ∧ rest = ls.drop k ∧ ra.length + j = gs.length ∧ AgsC w p ra (xs.drop (j * 4)) ∧ gs = pre ++ ra ∧
      (properL rest ra → properL ls gs) ∧ Below w2.heap.size w2 wr) (fun i _ _ => ls.length - (intOf i).toNat)
    case atStart => exact ⟨0, ls, 0, gs, [], rfl, rfl, rfl, rfl, rfl, by simpa using HA.out, rfl, fun h => h, Below.refl _ _⟩
    case round =>
      obtain ⟨k, rest, j, ra, pre, rfl, rfl, hrest, hdr, hra, hraA, hpre, himp, hbel⟩ := hrel
      have hbw := HBel2.out.trans (hbel.mono HBel2.out.size)
      have HBw := Lib.hid hbw
      have HPre := Lib.hid hpre
      have HImp := Lib.hid himp
      have hb3 := hb2.below hbel (by omega)
      have m2 : wr.cell? ⟨w.heap.size, 2, none⟩ = some (.slice A gs.length c) := by rw [hb3.cell]; rfl
      cases rest with
      | nil =>
        have hk : k = ls.length := by simpa using hrest
        clear hrest hdr hpre himp hraA hbw
        subst hk
        have hfin : ∀ b : Bool, (b = true → ra = []) → ProperPost cl me gs w (.returned (.bool b)) wr := fun b hb => ⟨b, rfl, HBw.out, fun h => ⟨ls, HLs.out, HImp.out (hb h)⟩⟩
        have HFin := Lib.hid hfin
        clear hfin
        go_wp2
        go_ret
        exact HFin.out _ (fun h => List.eq_nil_of_length_eq_zero (by have := of_decide_eq_true h; omega))
      | cons ch r =>
        have hk : k < ls.length := by simp at hrest; omega
        have hch : ls[k]? = some ch := by have := congrArg (fun l => l[0]?) hdr; simpa using this.symm
        have hr : r = ls.drop (k + 1) := by rw [← List.drop_drop, ← hdr]; rfl
        have m1 : wr.cell? ⟨w1.heap.size, k, none⟩ = some (.int .u8 ch.toNat) := by
          rw [World.cell?_of_block (w := w2) (hbel.block _ (by show w1.heap.size < w2.heap.size; omega)), HCell.out k (by show k < ls.length; exact hk)]
          simp [List.getD, hch]
        have hk0 : (0 : Int) ≤ (k : Int) := by omega
        have hk1 : (k : Int) < (ls.length : Int) := by omega
        have hrl : r.length + (k + 1) = ls.length := by simp at hrest; omega
        have Hr := Lib.hid hr
        have Hch := Lib.hid hch
        have Hrl := Lib.hid hrl
        have Hra := Lib.hid hra
        have HX := Lib.hid hraA
        have HBel := Lib.hid hbel
        clear hrest hdr hpre himp hraA hbw hr hrl hch hra
        have hia : isArg ch = true := HCs.out ch (by have := List.mem_of_getElem? (l := ls) (i := k) (a := ch) Hch.out; exact this)
        have HIa := Lib.hid hia
        clear hia
        by_cases h65 : ch.toNat < 65
        · have h65' : (ch.toNat : Int) < 65 := by omega
          go_wp2_with fail
          exact ⟨⟨k + 1, r, j, ra, pre, rfl, rfl, Hrl.out, Hr.out, Hra.out, HX.out, HPre.out, fun h => HImp.out (by rw [properL, if_pos h65]; exact h), HBel.out⟩, by simp [intOf]; omega⟩
        · have h65' : ¬ ((ch.toNat : Int) < 65) := by omega
          cases ra with
          | nil =>
            have hj : j = gs.length := by have := Hra.out; simpa using this
            subst hj
            go_wp2_with fail
            try go_ret
            exact ⟨false, rfl, HBw.out, fun h => nomatch h⟩
          | cons a q =>
            have hj : (j : Int) ≠ (gs.length : Int) := by have := Hra.out; simp at this; omega
            have hjl : (j : Int) < (gs.length : Int) := by have := Hra.out; simp at this; omega
            have hj0 : (0 : Int) ≤ (j : Int) := by omega
            obtain ⟨bb, off, a1, c1, ys, rfl, hpb, e0, e1, e2, e3, x1, x2, x3, x4⟩ := AgsC.at_ HR.out HX.out
            have hkeep : ∀ g, p g → wr.heap[g]? = w.heap[g]? := fun g hg => HBw.out.block g (HP.out g hg)
            have hb' := hkeep bb hpb
            rw [← World.cell?_of_block (w := w) (w' := wr) (a := ⟨bb, off + j * 4, none⟩) hb'] at e0
            rw [← World.cell?_of_block (w := w) (w' := wr) (a := ⟨bb, off + j * 4 + 1, none⟩) hb'] at e1
            rw [← World.cell?_of_block (w := w) (w' := wr) (a := ⟨bb, off + j * 4 + 2, none⟩) hb'] at e2
            rw [← World.cell?_of_block (w := w) (w' := wr) (a := ⟨bb, off + j * 4 + 3, none⟩) hb'] at e3
            have hao : a.ok := Hok.out a (by rw [HPre.out]; simp)
            have hcall := properArg_any ch HIa.out (by omega) a a1 c1 ys p wr hao (x1.keep hkeep) (x2.keep hkeep) x3 (fun g hg => by have := HP.out g hg; have := HBw.out.size; omega)
            obtain ⟨ak, an, at_, afs⟩ := a
            simp only at e0 e1 e2 e3 x1 x2 x3 hcall
            have HCall := Lib.hid hcall
            have hX4 := Lib.hid x4
            clear x4 x1 x2 hkeep hb' hao hcall
            go_wp2_with fail
            refine HCall.out.mono ?_
            rintro e w5 ⟨b, rfl, y1, y2⟩
            have HBw5 := Lib.hid (HBw.out.trans (y1.mono HBw.out.size))
            have HBel5 := Lib.hid (HBel.out.trans (y1.mono HBel.out.size))
            have HY2 := Lib.hid y2
            clear y1 y2
            cases b with
            | false =>
              go_wp2_with fail
              try go_ret
              exact ⟨false, rfl, HBw5.out, fun h => nomatch h⟩
            | true =>
              go_wp2_with fail
              refine ⟨⟨k + 1, r, j + 1, q, pre ++ [⟨ak, an, at_, afs⟩], rfl, rfl, Hrl.out, Hr.out, by have := Hra.out; simp at this; omega, ?_, by rw [HPre.out]; simp, fun h => HImp.out (by rw [properL, if_neg h65]; exact ⟨_, q, rfl, by have := HY2.out; simpa using this, h⟩), HBel5.out⟩, by simp [intOf]; omega⟩
              rw [show (j + 1) * 4 = j * 4 + 4 by omega]
              exact hX4.out

end Go.Proofs.YtabeppaehenefaaGreat
