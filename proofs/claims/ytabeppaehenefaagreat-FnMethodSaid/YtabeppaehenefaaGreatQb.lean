/-
  FnMethod: FormatMethod's inner function: the arguments as ZZMethod takes them, and the frame.
-/
import Derived.Test.YtabeppaehenefaaGreatQa
import Derived.Test.YtabeppaehenefaaGreatMf
import Derived.Test.YtabeppaehenefaaGreatIe
import Derived.BigQuiet
namespace Go.Proofs.YtabeppaehenefaaGreat
open Go.RowKit
attribute [local go_sem ↓] Go.wp_at_zero Go.wp_at_succ

/-- an argument's cells in the form that ZZMethod takes -/
abbrev zcells (a : Ag) (b : Nat) : List Value := [.int .i64 a.k, .int .u64 a.n, .string a.t, .map (some b)]
def ZgsC (w : World) (p : Nat → Prop) : List Ag → List Value → Prop
  | [], cs => cs = []
  | a :: r, cs => ∃ b cs', cs = zcells a b ++ cs' ∧ TabV w p a.fs b ∧ ZgsC w p r cs'
theorem ZgsC.keep {w w1 : World} {p q : Nat → Prop} (hk : ∀ g, p g → w1.heap[g]? = w.heap[g]?) (hl : ∀ g, p g → q g) : ∀ {l : List Ag} {cs : List Value}, ZgsC w p l cs → ZgsC w1 q l cs
  | [], cs, h => h
  | a :: r, cs, h => by
    obtain ⟨b, cs', e, h1, h2⟩ := h
    exact ⟨b, cs', e, h1.keep hk hl, ZgsC.keep hk hl h2⟩
theorem ZgsC.snoc {w : World} {p : Nat → Prop} {a : Ag} {b : Nat} (hv : TabV w p a.fs b) : ∀ {l : List Ag} {cs : List Value}, ZgsC w p l cs → ZgsC w p (l ++ [a]) (cs ++ zcells a b)
  | [], cs, h => by rw [ZgsC] at h; subst h; exact ⟨b, [], by simp, hv, rfl⟩
  | x :: r, cs, h => by
    obtain ⟨b', cs', rfl, h1, h2⟩ := h
    exact ⟨b', cs' ++ zcells a b, by simp, h1, ZgsC.snoc hv h2⟩

/-- what ZZMethod gives: a message that writes these bytes -/
def ZPost (w : World) (cl me : Nat) (ys : List UInt8) (e : Ending) (w' : World) : Prop :=
  ∃ T g fi fw, e = .returned (.tuple #[.iface T (.pointer (some ⟨g, 0, none⟩)), .bool true]) ∧ Below w.heap.size w w' ∧ MsgAt w' T g fi fw cl me ys

theorem under54 : Tryz.prog.underlying 54 = some (.slice 60) := by kernel_rfl
theorem info60 : (Tryz.prog.info? 60).map (fun i => (i.zero, i.size, i.bytes)) = some (some (.agg #[.int .i64 0, .int .u64 0, .string ⟨#[]⟩, .map none]), 4, 40) := by kernel_rfl
theorem src60 (w2 : World) (k n : Int) (t : ByteArray) (b : Nat) :
    Src Tryz.prog 4 54 (.slice (some ⟨w2.heap.size, 0, none⟩) 1 1) 1 [.int .i64 k, .int .u64 n, .string t, .map (some b)] (w2.alloc (.cells #[.int .i64 k, .int .u64 n, .string t, .map (some b)] 60)) :=
  Src.ofSlice _ under54 ⟨w2.heap.size, 0, none⟩ 1 1 _ rfl (by have := World.news_of_block (Blk.new w2 60 #[.int .i64 k, .int .u64 n, .string t, .map (some b)]); simpa using this) (by intro u hu; simp at hu; rcases hu with rfl | rfl | rfl | rfl <;> rfl)

set_option maxRecDepth 100000 in
set_option maxHeartbeats 8000000 in
/-- FormatMethod's inner function -/
theorem maker_any {mb : Nat} {A : Option Addr} {c : Nat} {xs : List Value} {p : Nat → Prop} {w : World} {ys : List UInt8} (ch cl me : Nat) (gs : List Ag) (hb : Blk w mb 24 #[.int .i64 cl, .int .i64 me, .slice A gs.length c]) (hcl : cl < 65536) (hme : me < 65536)
    (hok : ∀ a ∈ gs, a.ok ∧ a.fs.good none) (hlen : gs.length ≤ 2147483647) (hR : Rd w p A xs) (hA : AgsC w p gs xs) (hp : ∀ g, p g → g < w.heap.size)
    (hZ : ∀ (w' : World) (sv : Value) (cs : List Value) (q : Nat → Prop), Below w.heap.size w w' → w'.ownsRow w.heap.size 60 4 sv gs.length cs → ZgsC w' q gs cs → (∀ g, q g → g < w'.heap.size) → Calls Tryz.prog 18 #[.int .u16 cl, .int .u16 me, sv] w' (ZPost w' cl me ys)) :
    Calls Tryz.prog 16 #[.int .u16 ch, .pointer (some ⟨mb, 0, none⟩)] w fun e w' => ∃ fb T g fi fw w0, e = .returned (.tuple #[.iface 65 (.pointer (some ⟨fb, 0, none⟩)), .bool true]) ∧ Below w.heap.size w w' ∧ MsgAt w0 T g fi fw cl me ys ∧ Below w0.heap.size w0 w' ∧
      Blk w' fb 67 #[.int .u16 ch, .int .u16 cl, .int .u16 me, .iface T (.pointer (some ⟨g, 0, none⟩))] := by
  obtain ⟨i1, hi1, hz1, hs1, hb1⟩ := info_parts info60
  have HR := Lib.hid hR
  have HA := Lib.hid hA
  have Hok := Lib.hid hok
  have HP := Lib.hid hp
  have HZ := Lib.hid hZ
  have HB := Lib.hid hb
  have c0 : w.cell? ⟨mb, 0, none⟩ = some (.int .i64 cl) := by rw [hb.cell]; rfl
  have c1 : w.cell? ⟨mb, 1, none⟩ = some (.int .i64 me) := by rw [hb.cell]; rfl
  have c2 : w.cell? ⟨mb, 2, none⟩ = some (.slice A gs.length c) := by rw [hb.cell]; rfl
  have x0 : w.drew.cell? ⟨mb, 0, none⟩ = some (.int .i64 cl) := c0
  have x1 : w.drew.cell? ⟨mb, 1, none⟩ = some (.int .i64 me) := c1
  have x2 : w.drew.cell? ⟨mb, 2, none⟩ = some (.slice A gs.length c) := c2
  have hw1 : (cl : Int) % 65536 = cl := by omega
  have hw2 : (me : Int) % 65536 = me := by omega
  clear hR hA hok hp hZ hb
  go_enter Tryz.func16, Tryz.ntmps16
  go_upto_region 1 with fail
  go_quiet (fail)
  go_wp2_with fail
  clear c0 c1 c2 x0 x1 x2
  have hbelq : Below w.heap.size w (w.drewN nq) := ⟨rfl, rfl, rfl, Nat.le_refl _, fun _ _ => rfl⟩
  generalize w.drewN nq = wq at hbelq ⊢
  go_loopw [35, 7] (fun i sv wr => ∃ (k : Nat) (rest dn : List Ag) (cs : List Value), i = .int .i64 k ∧ rest.length + k = gs.length ∧ dn.length = k ∧ gs = dn ++ rest ∧ AgsC w p rest (xs.drop (k * 4)) ∧
    wr.ownsRow w.heap.size 60 4 sv k cs ∧ ZgsC wr (fun g => (w.heap.size ≤ g ∧ g < wr.heap.size) ∧ some g ≠ sv.ownBlock) dn cs ∧ Below w.heap.size w wr) (fun i _ _ => gs.length - (intOf i).toNat)
  case atStart => exact ⟨0, gs, [], [], rfl, rfl, rfl, rfl, by simpa using HA.out, World.ownsRow_nil _ _ _ _, rfl, hbelq⟩
  case round =>
    obtain ⟨k, rest, dn, cs, rfl, hrest, hdk, hgs, hrA, hown, hcs, hbel⟩ := hrel
    have HGs := Lib.hid hgs
    have HDk := Lib.hid hdk
    have HCs := Lib.hid hcs
    have HOwn := Lib.hid hown
    have HBel := Lib.hid hbel
    have hsz := hbel.size
    obtain ⟨A0, c0, rfl⟩ := own_shape hown
    clear hgs hdk hcs hbelq hown hbel
    cases rest with
    | nil =>
      have hk : k = gs.length := by simpa using hrest
      clear hrest hrA
      subst hk
      have hdn : dn = gs := by have := HGs.out; simpa using this.symm
      subst hdn
      have HZC := Lib.hid (HZ.out wr _ cs _ HBel.out HOwn.out HCs.out (fun g hg => hg.1.2))
      go_wp2_with fail
      refine HZC.out.mono ?_
      rintro e w1 ⟨T, g, fi, fw, rfl, hb1, hM⟩
      have HB1 := Lib.hid (HBel.out.trans (hb1.mono hsz))
      have HM := Lib.hid hM
      clear hb1 hM
      go_wp2_with fail
      go_ret2
      exact ⟨w1.heap.size, T, g, fi, fw, w1, rfl, HB1.out.alloc HB1.out.size _, HM.out, (Below.refl _ _).alloc (Nat.le_refl _) _, Blk.new w1 67 _⟩
    | cons a q =>
      have hk0 : (0 : Int) ≤ (k : Int) := by omega
      have hkl : (k : Int) < (gs.length : Int) := by simp at hrest; omega
      obtain ⟨b, off, a1, c1, ys1, rfl, hpb, e0, e1, e2, e3, y1, y2, y3, y4⟩ := AgsC.at_ HR.out hrA
      obtain ⟨hao, hag⟩ := Hok.out a (by rw [HGs.out]; simp)
      have hkp : ∀ g, p g → wr.heap[g]? = w.heap[g]? := fun g hg => HBel.out.block g (HP.out g hg)
      have hb' := hkp b hpb
      rw [← World.cell?_of_block (w := w) (w' := wr) (a := ⟨b, off + k * 4, none⟩) hb'] at e0
      rw [← World.cell?_of_block (w := w) (w' := wr) (a := ⟨b, off + k * 4 + 1, none⟩) hb'] at e1
      rw [← World.cell?_of_block (w := w) (w' := wr) (a := ⟨b, off + k * 4 + 2, none⟩) hb'] at e2
      rw [← World.cell?_of_block (w := w) (w' := wr) (a := ⟨b, off + k * 4 + 3, none⟩) hb'] at e3
      obtain ⟨ak, an, at_, afs⟩ := a
      simp only at e0 e1 e2 e3 y1 y2 y3 hag
      have hka : ∀ g, p g → (wr.alloc (.cells #[.int .i64 ak, .int .u64 an, .string at_, .slice a1 afs.len c1] 41)).heap[g]? = w.heap[g]? := fun g hg => (Below.heap_alloc _ _ _ (by have := HP.out g hg; omega)).trans (hkp g hg)
      have HT := Lib.hid (table_made (w := wr.alloc (.cells #[.int .i64 ak, .int .u64 an, .string at_, .slice a1 afs.len c1] 41)) hag hao.2.2.2.1 hao.2.2.2.2 (y1.keep hka) (y2.keep hka) y3 (fun g hg => by have := HP.out g hg; simp; omega))
      have HNew := Lib.hid (Blk.new wr 41 #[.int .i64 ak, .int .u64 an, .string at_, .slice a1 afs.len c1])
      have HX4 := Lib.hid y4
      clear hkp hb' y1 y2 y4 hka hrA hag hao
      go_wp2_with fail
      refine HT.out.mono ?_
      rintro e w2 ⟨tb, rfl, hT, hb2⟩
      have HTB := Lib.hid hT
      have hs2 := hb2.size
      simp only [World.size_alloc] at hs2
      have hN2 := HNew.out.below hb2 (by simp)
      have z0 : w2.cell? ⟨wr.heap.size, 0, none⟩ = some (.int .i64 ak) := by rw [hN2.cell]; rfl
      have z1 : w2.cell? ⟨wr.heap.size, 1, none⟩ = some (.int .u64 an) := by rw [hN2.cell]; rfl
      have z2 : w2.cell? ⟨wr.heap.size, 2, none⟩ = some (.string at_) := by rw [hN2.cell]; rfl
      have hbw : Below wr.heap.size wr w2 := ((Below.refl _ _).alloc (Nat.le_refl _) _).trans (hb2.mono (by simp))
      have HBw := Lib.hid hbw
      have hown2 := own_below HOwn.out hbw (Nat.le_refl _)
      clear hT hb2 HT hN2 hbw
      go_wp2_with (at_builtin; refine wpList_append_src _ rfl (.tmp 47) (.tmp 56) 54 54 rfl w.heap.size 60 i1 _ 4 40 under54 hi1 hz1 hs1 hb1 rfl (.slice A0 k c0) k cs rfl (hown2.alloc _) (.slice (some ⟨w2.heap.size, 0, none⟩) 1 1) 1 [.int .i64 ak, .int .u64 an, .string at_, .map (some tb)] rfl (src60 w2 ak an at_ tb) (by unfold maxLen; omega) (by omega) (by simp; omega) ?_)
      intro v' w5 hown5 hg5 hat5
      obtain ⟨A5, c5, rfl⟩ := own_shape hown5
      have hrow := HOwn.out.lt
      have hs5 := hg5.size
      simp only [World.size_alloc] at hs5
      have hw2 := HBw.out.size
      have hgk : ∀ g, g < w2.heap.size → some g ≠ (Value.slice A0 k c0).ownBlock → w5.heap[g]? = w2.heap[g]? := fun g h1 h2 => (hg5.block g (by simp; omega) h2).trans (Below.heap_alloc _ _ _ h1)
      have hrn : ∀ g, g < w2.heap.size → some g ≠ (Value.slice A0 k c0).ownBlock → some g ≠ (Value.slice A5 (k + 1) c5).ownBlock := by
        intro g h1 h2
        rcases hat5 with e | e
        · rw [e]; exact h2
        · rw [e]; simp; omega
      have F1 := Lib.hid (ZgsC.snoc (a := ⟨ak, an, at_, afs⟩) (b := tb) (HTB.out.keep (w1 := w5) (q := fun g => (w.heap.size ≤ g ∧ g < w5.heap.size) ∧ some g ≠ (Value.slice A5 (k + 1) c5).ownBlock)
          (fun g hg => hgk g hg.2 (fun e => by have := (hrow g e.symm).2; have := hg.1; simp at this; omega))
          (fun g hg => by
            have h1 := hg.1
            simp only [World.size_alloc] at h1
            exact ⟨⟨by omega, by have := hg.2; omega⟩, hrn g hg.2 (fun e => by have := (hrow g e.symm).2; omega)⟩))
        (HCs.out.keep (w1 := w5) (fun g hg => (hgk g (by have := hg.1.2; omega) hg.2).trans (HBw.out.block g hg.1.2)) (fun g hg => ⟨⟨hg.1.1, by have := hg.1.2; omega⟩, hrn g (by have := hg.1.2; omega) hg.2⟩)))
      have F2 := Lib.hid hown5
      have F3 := Lib.hid (((HBel.out.trans (HBw.out.mono hsz)).alloc (by omega) (.cells #[.int .i64 ak, .int .u64 an, .string at_, .map (some tb)] 60)).grown hg5 (by simp; omega) (fun g hg => (hrow g hg).1))
      clear hgk hrn hown5 hg5 hat5 hown2 hrow
      go_wp2
      refine ⟨⟨k + 1, q, dn ++ [⟨ak, an, at_, afs⟩], _, by go_num, by simp at hrest; omega, by rw [List.length_append, HDk.out]; rfl, by rw [HGs.out]; simp, ?_, F2.out, F1.out, F3.out⟩, by simp [intOf]; omega⟩
      rw [show (k + 1) * 4 = k * 4 + 4 by omega]
      exact HX4.out

end Go.Proofs.YtabeppaehenefaaGreat
