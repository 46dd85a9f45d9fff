/-
  FnMethods: the walk of the statement's function.
-/
import Derived.Test.YtkcdakohmfodjaaWe
namespace Go.Proofs.Ytkcdakohmfodjaa
open Go.RowKit

theorem MRows.at_ {w : World} {H : Nat} {r : Int × Int} {ks : List Int} : ∀ {l : List ((Int × Int) × List Int)} {cs : List Value} {k : Nat}, MRows w H l cs → l[k]? = some (r, ks) →
    ∃ a, cs[k * 3]? = some (.int .i64 r.1) ∧ cs[k * 3 + 1]? = some (.int .i64 r.2) ∧ cs[k * 3 + 2]? = some a ∧ w.ownsRow H 41 4 a ks.length (argCells ks) := by
  intro l
  induction l with
  | nil => intro cs k _ h; simp at h
  | cons x q ih =>
    intro cs k hm h
    obtain ⟨a, cs', rfl, h1, h2⟩ := hm
    cases k with
    | zero => simp at h; subst h; exact ⟨a, rfl, rfl, rfl, h1⟩
    | succ k =>
      obtain ⟨a', e0, e1, e2, h3⟩ := ih h2 h
      refine ⟨a', ?_, ?_, ?_, h3⟩
      · rw [show (k + 1) * 3 = k * 3 + 3 by omega]; exact e0
      · rw [show (k + 1) * 3 + 1 = k * 3 + 1 + 3 by omega]; exact e1
      · rw [show (k + 1) * 3 + 2 = k * 3 + 2 + 3 by omega]; exact e2

def want (l : List UInt8) : List UInt8 := l.filter (65 ≤ ·)
def kletters : List UInt8 := [111, 115, 108, 113, 83, 76, 98, 116, 84]
def got (ks : List Int) : List UInt8 := ks.map fun k => kletters.getD k.toNat 0

theorem own_cell {w w1 : World} {H B : Nat} {e : TypeId} {size n : Nat} {g cap : Nat} {xs : List Value} (h : w.ownsRow H e size (.slice (some ⟨g, 0, none⟩) n cap) n xs) (hb : Below B w w1) (hB : g < B) {j : Nat} {u : Value} (hu : xs[j]? = some u) : w1.cell? ⟨g, j, none⟩ = some u := by
  have := h.cells (g := g) rfl j u hu
  have hadd : (⟨g, 0, none⟩ : Addr).add j = ⟨g, j, none⟩ := by unfold Addr.add; split <;> simp_all
  rw [hadd] at this
  rw [hb.cell hB]
  exact this

theorem all_fit : allMeths.all (fun x => match letters x.1.1 x.1.2 with | some ls => want ls == got x.2 && ls.all (· < 128) && decide (ls.length ≤ 20) && decide (x.2.length ≤ 20) && x.2.all (fun k => decide (0 ≤ k) && decide (k ≤ 8)) | none => false) = true := by decide +kernel

def isR (c m : Int) (r : Int × Int) : Bool := r.1 == c && r.2 == m

theorem same_sets (c m : Int) : meths.any (isR c m) = (letters c m).isSome := by
  have h1 : meths.all (fun r => known.any fun s => s.1 == r.1 && s.2.1 == r.2) = true := by decide +kernel
  have h2 : known.all (fun s => meths.any fun r => r.1 == s.1 && r.2 == s.2.1) = true := by decide +kernel
  rw [List.all_eq_true] at h1 h2
  unfold letters
  rw [Option.isSome_map, Bool.eq_iff_iff, List.any_eq_true, List.find?_isSome]
  constructor
  · rintro ⟨r, hr, e⟩
    have := h1 r hr
    rw [List.any_eq_true] at this
    obtain ⟨s, hs, es⟩ := this
    refine ⟨s, hs, ?_⟩
    simp [isR, isM] at e es ⊢
    omega
  · rintro ⟨s, hs, e⟩
    have := h2 s hs
    rw [List.any_eq_true] at this
    obtain ⟨r, hr, er⟩ := this
    refine ⟨r, hr, ?_⟩
    simp [isR, isM] at e er ⊢
    omega

theorem encode_byte (b : UInt8) (h : b.toNat < 128) : Utf8.encode (b.toNat : Int) = ⟨#[b]⟩ := by
  have hv : Utf8.valid (b.toNat : Int) = true := by
    unfold Utf8.valid
    simp
    omega
  unfold Utf8.encode
  simp [hv, h]

theorem ext_letter (k : Int) (h0 : 0 ≤ k) (h8 : k ≤ 8) : (⟨#[111, 115, 108, 113, 83, 76, 98, 116, 84]⟩ : ByteArray).extract k.toNat (k + 1).toNat = ⟨#[kletters.getD k.toNat 0]⟩ := by
  have : k = 0 ∨ k = 1 ∨ k = 2 ∨ k = 3 ∨ k = 4 ∨ k = 5 ∨ k = 6 ∨ k = 7 ∨ k = 8 := by omega
  rcases this with rfl | rfl | rfl | rfl | rfl | rfl | rfl | rfl | rfl <;> rfl

theorem want_snoc (l : List UInt8) (p : Nat) (b : UInt8) (h : l[p]? = some b) : want (l.take (p + 1)) = want (l.take p) ++ if 65 ≤ b then [b] else [] := by
  unfold want
  rw [List.take_add_one, h, List.filter_append]
  by_cases hb : 65 ≤ b <;> simp [hb]

set_option maxRecDepth 100000 in
set_option maxHeartbeats 2000000 in
theorem FnMethods_any (c m : Int) (w : World) : Calls Try.prog 4 #[.int .i64 c, .int .i64 m] w fun e w' => e = .returned (.bool true) ∧ Below w.heap.size w w' := by
  go_enter Try.func4, Try.ntmps4
  go_wp2_with fail
  refine (Letters_any c m w).mono ?_
  rintro e w1 ⟨rfl, hb1⟩
  have hsame := Lib.hid (same_sets c m)
  obtain ⟨L, hL⟩ : ∃ L, letters c m = L := ⟨_, rfl⟩
  have HL := Lib.hid hL
  rw [hL] at hsame
  rw [hL]
  clear hL
  go_wp2_with fail
  refine (Methods_any w1).mono ?_
  rintro e w2 ⟨v, cs, rfl, hown, hrows, hb2⟩
  obtain ⟨g, cap, hv, hge, hgl⟩ := hown.form (by omega)
  subst hv
  have hb12 := hb1.trans (hb2.mono hb1.size)
  go_wp2_with fail
  go_loopw [24, 7] (fun i f wr => ∃ k : Nat, k ≤ 64 ∧ i = .int .i64 k ∧ f = .bool ((meths.take k).any (isR c m)) ∧ Below w2.heap.size w2 wr) (fun i _ _ => 64 - (intOf i).toNat)
  case atStart => exact ⟨0, Nat.zero_le _, rfl, rfl, Below.refl _ _⟩
  case round =>
    obtain ⟨k, hk, rfl, hf, hbel⟩ := hrel
    subst hf
    obtain ⟨wo, rfl⟩ : ∃ wo : World, wo = wr := ⟨_, rfl⟩
    by_cases hlt : k < 64
    · obtain ⟨ci, mi, hr⟩ : ∃ ci mi, meths[k]? = some (ci, mi) := ⟨_, _, List.getElem?_eq_getElem (by rw [meths_len]; exact hlt)⟩
      obtain ⟨ks, hz⟩ : ∃ ks, allMeths[k]? = some ((ci, mi), ks) := by
        refine ⟨kindsL.getD k [], ?_⟩
        unfold allMeths
        rw [List.getElem?_zip_eq_some]
        refine ⟨hr, ?_⟩
        have : k < kindsL.length := hlt
        simp [List.getD, List.getElem?_eq_getElem this]
      obtain ⟨a, e0, e1, e2, hargs⟩ := hrows.at_ hz
      have c0 := own_cell hown hbel hgl e0
      have c1 := own_cell hown hbel hgl e1
      have c2 := own_cell hown hbel hgl e2
      have hargs' := own_below hargs hbel (Nat.le_refl _)
      clear e0 e1 e2 hargs
      have htk : meths.take (k + 1) = meths.take k ++ [(ci, mi)] := by rw [List.take_add_one, hr]; rfl
      have Ht := Lib.hid htk
      have Hr := Lib.hid hr
      have Hz := Lib.hid hz
      clear htk hr hz
      have k0 : (0 : Int) ≤ (k : Int) := by omega
      have k1 : (k : Int) < 64 := by omega
      have hso := hbel.size
      by_cases h1 : ci = c
      · by_cases h2 : mi = m
        · subst h1
          subst h2
          have hfit : ∃ ls, L = some ls ∧ want ls = got ks ∧ (∀ b ∈ ls, b < 128) ∧ (∀ k ∈ ks, 0 ≤ k ∧ k ≤ 8) ∧ ls.length ≤ 20 ∧ ks.length ≤ 20 := by
            have := List.all_eq_true.1 all_fit _ (List.mem_of_getElem? Hz.out)
            simp only at this
            rw [HL.out] at this
            cases L with
            | none => simp at this
            | some ls => simp at this; exact ⟨ls, rfl, this.1.1.1.1, this.1.1.1.2, this.2, this.1.1.2, this.1.2⟩
          obtain ⟨ls, rfl, hwg, hasc, hks, hll, hkl⟩ := hfit
          have Hwg := Lib.hid hwg
          have Hasc := Lib.hid hasc
          have Hks := Lib.hid hks
          clear hwg hasc hks
          have hf2 : (meths.take (k + 1)).any (isR ci mi) = true := by rw [Ht.out]; simp [isR]
          have Hf := Lib.hid hf2
          clear hf2
          obtain ⟨A2, c22, rfl⟩ := own_shape hargs'
          go_wp2_with fail
          have hxs : (wo.alloc (.cells #[.int .i64 ci, .int .i64 mi, .slice A2 ks.length c22] 38)).heap.size = wo.heap.size + 1 := by simp
          have xblk := Blk.new wo 38 #[.int .i64 ci, .int .i64 mi, .slice A2 ks.length c22]
          have hargs2 := hargs'.alloc (.cells #[.int .i64 ci, .int .i64 mi, .slice A2 ks.length c22] 38)
          have hbel2 := hbel.alloc hso (.cells #[.int .i64 ci, .int .i64 mi, .slice A2 ks.length c22] 38)
          generalize wo.alloc (.cells #[.int .i64 ci, .int .i64 mi, .slice A2 ks.length c22] 38) = wx at hxs xblk hargs2 hbel2 ⊢
          have Hxs := Lib.hid hxs
          clear hxs
          go_loopw [10] (fun sv wr => ∃ p : Nat, p ≤ ls.length ∧ sv = .string ⟨(want (ls.take p)).toArray⟩ ∧ wr = wx.iter ⟨ls.toArray⟩ p) (fun _ wr => ls.length - wr.iterPos (wo.heap.size + 1))
          case atStart => exact ⟨0, Nat.zero_le _, rfl, rfl⟩
          case round =>
            obtain ⟨p, hp, rfl, rfl⟩ := hrel
            by_cases hpl : p < ls.length
            · obtain ⟨b, hb⟩ : ∃ b, ls[p]? = some b := ⟨_, List.getElem?_eq_getElem hpl⟩
              have hb128 : b.toNat < 128 := by
                have := Hasc.out b (List.mem_of_getElem? hb)
                simpa [UInt8.lt_iff_toNat_lt] using this
              have hnx : ∀ ty, (Instr.next (.pointer (some ⟨wo.heap.size + 1, 0, none⟩)) true ty).run Try.prog (wx.iter ⟨ls.toArray⟩ p) = .ok (.tuple #[.bool true, .int .i64 p, .int .i32 b.toNat]) (wx.iter ⟨ls.toArray⟩ (p + 1)) := by
                intro ty
                have hlt' : p < (⟨ls.toArray⟩ : ByteArray).size := hpl
                have hbe : (⟨ls.toArray⟩ : ByteArray)[p]'hlt' = b := by
                  have := List.getElem?_eq_getElem hpl
                  rw [hb] at this
                  injection this with this
                  exact this.symm
                have := run_next_ascii (P := Try.prog) wx ⟨ls.toArray⟩ p ty hlt' (by rw [hbe]; exact hb128)
                rw [hbe, Hxs.out] at this
                exact this
              have hw := want_snoc ls p b hb
              have henc := encode_byte b hb128
              have Hw := Lib.hid hw
              clear hb hw
              have hle : 65 ≤ b ↔ (65 : Int) ≤ (b.toNat : Int) := by rw [UInt8.le_iff_toNat_le]; simp; omega
              have Hle := Lib.hid hle
              clear hle
              have hn0 : (0 : Int) ≤ (b.toNat : Int) := by omega
              have hn1 : (b.toNat : Int) < 128 := by omega
              clear hb128
              generalize ((b.toNat : Nat) : Int) = n at *
              by_cases h65 : (65 : Int) ≤ n
              · have hwl : (want (ls.take p)).length ≤ 20 := Nat.le_trans (List.length_filter_le _ _) (by simp; omega)
                go_wp2
                refine ⟨⟨p + 1, by omega, ?_, rfl⟩, ?_⟩
                · rw [Hw.out, if_pos (Hle.out.2 h65)]
                  simp [ByteArray.mk_append_mk]
                · rw [← Hxs.out, World.iterPos_iter, World.iterPos_iter]
                  omega
              · go_wp2
                refine ⟨⟨p + 1, by omega, ?_, rfl⟩, ?_⟩
                · rw [Hw.out, if_neg (fun h => h65 (Hle.out.1 h)), List.append_nil]
                · rw [← Hxs.out, World.iterPos_iter, World.iterPos_iter]
                  omega
            · have hpe : p = ls.length := by omega
              subst hpe
              have hnx : ∀ ty, (Instr.next (.pointer (some ⟨wo.heap.size + 1, 0, none⟩)) true ty).run Try.prog (wx.iter ⟨ls.toArray⟩ ls.length) = .ok (.tuple #[.bool false]) (wx.iter ⟨ls.toArray⟩ ls.length) := by
                intro ty
                have := run_next_end (P := Try.prog) wx ⟨ls.toArray⟩ ls.length ty (by show ¬ ls.length < ls.length; omega)
                rw [Hxs.out] at this
                exact this
              rw [List.take_length, Hwg.out]
              have yblk : Blk (wx.iter ⟨ls.toArray⟩ ls.length) wo.heap.size 38 #[.int .i64 ci, .int .i64 mi, .slice A2 ks.length c22] := xblk.alloc _
              have hargs3 : (wx.iter ⟨ls.toArray⟩ ls.length).ownsRow (w1.heap.size + 1) 41 4 (.slice A2 ks.length c22) ks.length (argCells ks) := hargs2.alloc _
              have hbel3 : Below w2.heap.size w2 (wx.iter ⟨ls.toArray⟩ ls.length) := hbel2.alloc (by rw [Hxs.out]; omega) _
              generalize wx.iter ⟨ls.toArray⟩ ls.length = wy at hnx yblk hargs3 hbel3 ⊢
              have y2 : wy.cell? ⟨wo.heap.size, 2, none⟩ = some (.slice A2 ks.length c22) := by rw [yblk.cell]; rfl
              go_wp2_with fail
              go_loopw [52, 13] (fun i sv wr => ∃ j : Nat, j ≤ ks.length ∧ i = .int .i64 j ∧ sv = .string ⟨(got (ks.take j)).toArray⟩ ∧ Below wy.heap.size wy wr) (fun i _ _ => ks.length - (intOf i).toNat)
              case atStart => exact ⟨0, Nat.zero_le _, rfl, rfl, Below.refl _ _⟩
              case round =>
                obtain ⟨j, hj, rfl, rfl, hbj⟩ := hrel
                by_cases hjl : j < ks.length
                · obtain ⟨kj, hkj⟩ : ∃ kj, ks[j]? = some kj := ⟨_, List.getElem?_eq_getElem hjl⟩
                  obtain ⟨ga, ca, hA, _, hgl2⟩ := hargs3.form (by omega)
                  injection hA with hA1 _ hA2
                  subst hA1
                  have d0 : wr.cell? ⟨ga, j * 4, none⟩ = some (.int .i64 kj) := own_cell hargs3 hbj hgl2 (by have := flat_at argRow 4 (fun _ => rfl) ks j 0 _ hkj (by omega); simpa [argRow, argCells] using this)
                  have d1 : wr.cell? ⟨ga, j * 4 + 1, none⟩ = some (.int .u64 0) := own_cell hargs3 hbj hgl2 (by have := flat_at argRow 4 (fun _ => rfl) ks j 1 _ hkj (by omega); simpa [argRow, argCells] using this)
                  have d2 : wr.cell? ⟨ga, j * 4 + 2, none⟩ = some (.string ⟨#[]⟩) := own_cell hargs3 hbj hgl2 (by have := flat_at argRow 4 (fun _ => rfl) ks j 2 _ hkj (by omega); simpa [argRow, argCells] using this)
                  have d3 : wr.cell? ⟨ga, j * 4 + 3, none⟩ = some (.slice none 0 0) := own_cell hargs3 hbj hgl2 (by have := flat_at argRow 4 (fun _ => rfl) ks j 3 _ hkj (by omega); simpa [argRow, argCells] using this)
                  have hgs : got (ks.take (j + 1)) = got (ks.take j) ++ [kletters.getD kj.toNat 0] := by unfold got; rw [List.take_add_one, hkj]; simp
                  have Hgs := Lib.hid hgs
                  obtain ⟨hk1, hk2⟩ := Hks.out kj (List.mem_of_getElem? hkj)
                  clear hgs hkj
                  have j0 : (0 : Int) ≤ (j : Int) := by omega
                  have j1 : (j : Int) < (ks.length : Int) := by omega
                  have hwl : (got (ks.take j)).length ≤ 20 := by simp [got]; omega
                  have hso2 := hbj.size
                  go_wp2
                  refine ⟨⟨u4, .string ⟨(got (ks.take (j + 1))).toArray⟩, _, .int .i64 ((j + 1 : Nat) : Int), ⟨j + 1, by omega, rfl, rfl, hbj.alloc hso2 _⟩, rfl, ?_, rfl, by go_num⟩, by simp [intOf]; omega⟩
                  rw [ext_letter kj hk1 hk2, Hgs.out]
                  simp [ByteArray.mk_append_mk]
                · have hje : j = ks.length := by omega
                  subst hje
                  rw [List.take_length]
                  go_wp2
                  refine ⟨?_, ?_⟩
                  · (repeat apply Exists.intro)
                    refine ⟨⟨k + 1, by omega, ?_, ?_, hbel3.trans (hbj.mono hbel3.size)⟩, rfl⟩
                    · go_num
                    · rw [Hf.out]
                  · simp [intOf]
                    omega
        · subst h1
          have h2' : (mi != m) = true := by simp [h2]
          have hf2 : (meths.take (k + 1)).any (isR ci m) = (meths.take k).any (isR ci m) := by rw [Ht.out]; simp [isR, h2]
          have Hf := Lib.hid hf2
          clear hf2 h2
          obtain ⟨A2, c22, rfl⟩ := own_shape hargs'
          go_wp2
          exact ⟨⟨k + 1, by omega, by go_num, by rw [Hf.out], hbel.alloc hso _⟩, by simp [intOf]; omega⟩
      · have h1' : (ci != c) = true := by simp [h1]
        have hf2 : (meths.take (k + 1)).any (isR c m) = (meths.take k).any (isR c m) := by rw [Ht.out]; simp [isR, h1]
        have Hf := Lib.hid hf2
        clear hf2 h1
        obtain ⟨A2, c22, rfl⟩ := own_shape hargs'
        go_wp2
        exact ⟨⟨k + 1, by omega, by go_num, by rw [Hf.out], hbel.alloc hso _⟩, by simp [intOf]; omega⟩
    · have hk64 : k = 64 := by omega
      subst hk64
      have hfa : (meths.take 64).any (isR c m) = L.isSome := hsame.out
      rw [hfa]
      go_wp2_with fail
      refine (works_any wo).mono ?_
      rintro e w5 ⟨rfl, hb5⟩
      go_wp2
      go_ret
      exact ⟨rfl, hb12.trans ((hbel.trans (hb5.mono hbel.size)).mono hb12.size)⟩

end Go.Proofs.Ytkcdakohmfodjaa
