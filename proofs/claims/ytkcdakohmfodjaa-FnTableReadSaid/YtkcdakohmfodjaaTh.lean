/-
  FnTableRead: impl.told: arrays, tables.
-/
import Derived.Test.YtkcdakohmfodjaaTg
import Derived.Deep.RegionLaw
namespace Go.Proofs.Ytkcdakohmfodjaa
open Go.RowKit
attribute [local go_sem ↓] Go.wp_at_zero Go.wp_at_succ

theorem under78 : Try.prog.underlying 78 = some (.slice 80) := by kernel_rfl
theorem info80 : (Try.prog.info? 80).map (fun i => (i.zero, i.size, i.bytes)) = some (some (.agg #[.int .u8 0, .int .i64 0, .float .f64 0, .int .i64 0, .string ⟨#[]⟩, .slice none 0 0, .slice none 0 0]), 7, 96) := by kernel_rfl
theorem src80 (w2 : World) (k n : Int) (f : Nat) (s : Int) (t : ByteArray) (a1 : Option Addr) (n1 c1 : Nat) (a2 : Option Addr) (n2 c2 : Nat) :
    Src Try.prog 7 78 (.slice (some ⟨w2.heap.size, 0, none⟩) 1 1) 1 (vcells k n f s t a1 n1 c1 a2 n2 c2) (w2.alloc (.cells (vcells k n f s t a1 n1 c1 a2 n2 c2).toArray 80)) :=
  Src.ofSlice _ under78 ⟨w2.heap.size, 0, none⟩ 1 1 _ rfl (by have := World.news_of_block (Blk.new w2 80 (vcells k n f s t a1 n1 c1 a2 n2 c2).toArray); simpa using this) (by intro u hu; simp at hu; rcases hu with rfl | rfl | rfl | rfl | rfl | rfl | rfl <;> rfl)
theorem Vs.nrm_app : ∀ a b : Vs, (a.app b).nrm = a.nrm.app b.nrm
  | .nil, b => rfl
  | .cons v r, b => by rw [Vs.app, Vs.nrm, Vs.nrm, Vs.app, Vs.nrm_app r b]

def TVals (n : Nat) : Prop := ∀ (v : V) (x : Value) (p : Nat → Prop) (w : World), v.ht ≤ n → v.good → v.ok → AnyV w p v x → (∀ g, p g → g < w.heap.size) → Calls Try.prog 43 #[x] w (TOut w v)
def TTabs (n : Nat) : Prop := ∀ (fs : Fs) (prev : Option ByteArray) (b : Nat) (p : Nat → Prop) (w : World), fs.ht ≤ n → fs.good prev → fs.ok → fs.len ≤ 20000 → TabV w p fs b → (∀ g, p g → g < w.heap.size) → Calls Try.prog 29 #[.map (some b)] w fun e w' =>
  ∃ A c ys, e = .returned (.tuple #[.slice A fs.len c, .bool true]) ∧ fs.len ≤ c ∧ Rd w' (New w w') A ys ∧ FsC w' (New w w') fs.nrm ys ∧ Below w.heap.size w w'

set_option maxRecDepth 100000 in
set_option maxHeartbeats 4000000 in
theorem told_70 (n : Nat) (hT : TTabs n) (m : Int) (f : Nat) (s : Int) (t : ByteArray) (ks : Vs) (fs : Fs) {b : Nat} {p : Nat → Prop} {w : World} (hht : fs.ht ≤ n) (hg : fs.good none) (hok : fs.ok) (hl : fs.len ≤ 20000) (hTab : TabV w p fs b) (hp : ∀ g, p g → g < w.heap.size) :
    Calls Try.prog 43 #[.iface 53 (.map (some b))] w (TOut w (.mk 70 m f s t ks fs)) := by
  have hv : (V.mk 70 m f s t ks fs).nrm = .mk 70 0 0 0 ⟨#[]⟩ .nil fs.nrm := by simp [V.nrm]
  have hk : Blk (w.alloc (.cells (vcells 0 0 0 0 ⟨#[]⟩ none 0 0 none 0 0).toArray 80)) w.heap.size 80 (vcells 0 0 0 0 ⟨#[]⟩ none 0 0 none 0 0).toArray := Blk.new w 80 _
  have hb : Below w.heap.size w (w.alloc (.cells (vcells 0 0 0 0 ⟨#[]⟩ none 0 0 none 0 0).toArray 80)) := (Below.refl _ _).alloc (Nat.le_refl _) _
  have hs : (w.alloc (.cells (vcells 0 0 0 0 ⟨#[]⟩ none 0 0 none 0 0).toArray 80)).heap.size = w.heap.size + 1 := by simp
  have HC := Lib.hid (hT fs none b p (w.alloc (.cells (vcells 0 0 0 0 ⟨#[]⟩ none 0 0 none 0 0).toArray 80)) hht hg hok hl (hTab.keep (fun g hg => hb.block g (hp g hg)) (fun g hg => hg)) (fun g hg => by have := hp g hg; omega))
  have HS := Lib.hid hs
  clear hT hg hok hTab hp hht hs
  go_enter Try.func43, Try.ntmps43
  go_upto_region 1 with fail
  generalize w.alloc (.cells (vcells 0 0 0 0 ⟨#[]⟩ none 0 0 none 0 0).toArray 80) = wx at hk hb HC HS ⊢
  go_wp2_with fail
  refine HC.out.mono ?_
  rintro e w2 ⟨A, c, ys, rfl, hc, hR, hF, hbel⟩
  have hb2 : Below w.heap.size w w2 := hb.trans (hbel.mono (by have := HS.out; omega))
  have hk2 := hk.below hbel hk.lt
  have hs2 := hbel.size
  obtain ⟨g0, g1, g2, g3, g4, g5, g6⟩ := hk2.seven
  have fz := fun i => hk2.frozen i
  obtain ⟨e0, e1, e2⟩ := hk2.set7 (.int .u8 70) (.int .i64 0) (.float .f64 0) (.int .i64 0) (.string ⟨#[]⟩) (.slice none 0 0) (.slice A fs.len c)
  have hpost : TOut w (.mk 70 m f s t ks fs) (.returned (.tuple #[.agg (vcells 70 0 0 0 ⟨#[]⟩ none 0 0 A fs.len c).toArray, .bool true])) (put7 w2 w.heap.size (.int .u8 70) (.int .i64 0) (.float .f64 0) (.int .i64 0) (.string ⟨#[]⟩) (.slice none 0 0) (.slice A fs.len c)) := by
    refine ⟨_, rfl, ?_, res_put (z := #[]) hk2 hb2 _ _ _ _ _ _ _ rfl⟩
    have hne : ∀ g, New wx w2 g → g ≠ w.heap.size := fun g hg => by have := hg.1; have := HS.out; omega
    have hmo : ∀ g, New wx w2 g → New w (put7 w2 w.heap.size (.int .u8 70) (.int .i64 0) (.float .f64 0) (.int .i64 0) (.string ⟨#[]⟩) (.slice none 0 0) (.slice A fs.len c)) g := fun g hg => ⟨by have := hg.1; have := HS.out; omega, by rw [e2]; exact hg.2⟩
    rw [hv, RdV]
    exact ⟨none, 0, A, c, [], ys, by rw [Fs.len_nrm]; rfl, fun h => absurd rfl h, by rw [VsC], Nat.le_refl _, (hR.keep (fun g hg => e1 g (hne g hg))).more hmo, (hF.keep (fun g hg => e1 g (hne g hg))).more hmo, by rw [Fs.len_nrm]; exact hc⟩
  have HPost := Lib.hid hpost
  obtain ⟨j0, j1, j2, j3, j4, j5, j6⟩ := e0.seven
  clear e0 e1 e2 hpost hR hF hbel hb2 hk2 hk hb hs2
  go_wp2_with fail
  exact bodyPost_ret (v := .tuple #[.agg (vcells 70 0 0 0 ⟨#[]⟩ none 0 0 A fs.len c).toArray, .bool true]) (by simp [results, Try.results43, go_sem, j0, j1, j2, j3, j4, j5, j6]) rfl HPost.out

set_option maxRecDepth 100000 in
set_option maxHeartbeats 8000000 in
theorem told_65 (n : Nat) (hV : TVals n) (m : Int) (f : Nat) (s : Int) (t : ByteArray) (ks : Vs) (fs : Fs) {A : Option Addr} {c : Nat} {xs : List Value} {p : Nat → Prop} {w : World} (hht : ks.ht ≤ n) (hg : ks.good) (hok : ks.ok) (hl : ks.len ≤ 20000) (hR : Rd w p A xs) (hA : AnyVs w p ks xs) (hp : ∀ g, p g → g < w.heap.size) :
    Calls Try.prog 43 #[.iface 127 (.slice A ks.len c)] w (TOut w (.mk 65 m f s t ks fs)) := by
  have hv : (V.mk 65 m f s t ks fs).nrm = .mk 65 0 0 0 ⟨#[]⟩ ks.nrm .nil := by simp [V.nrm]
  have Hv := Lib.hid hv
  obtain ⟨i1, hi1, hz1, hs1, hb1⟩ := info_parts info80
  have hk : Blk (w.alloc (.cells (vcells 0 0 0 0 ⟨#[]⟩ none 0 0 none 0 0).toArray 80)) w.heap.size 80 (vcells 0 0 0 0 ⟨#[]⟩ none 0 0 none 0 0).toArray := Blk.new w 80 _
  have hb : Below w.heap.size w (w.alloc (.cells (vcells 0 0 0 0 ⟨#[]⟩ none 0 0 none 0 0).toArray 80)) := (Below.refl _ _).alloc (Nat.le_refl _) _
  have hs : (w.alloc (.cells (vcells 0 0 0 0 ⟨#[]⟩ none 0 0 none 0 0).toArray 80)).heap.size = w.heap.size + 1 := by simp
  have HV := Lib.hid hV
  have HG := Lib.hid hg
  have Hok := Lib.hid hok
  have HR := Lib.hid hR
  have HA := Lib.hid hA
  have HP := Lib.hid hp
  clear hv hV hg hok hR hA hp
  go_enter Try.func43, Try.ntmps43
  go_upto_region 1 with fail
  generalize w.alloc (.cells (vcells 0 0 0 0 ⟨#[]⟩ none 0 0 none 0 0).toArray 80) = wx at hk hb hs ⊢
  have hm : Blk (wx.alloc (.cells (vcells 65 0 0 0 ⟨#[]⟩ none 0 0 none 0 0).toArray 80)) (w.heap.size + 1) 80 (vcells 65 0 0 0 ⟨#[]⟩ none 0 0 none 0 0).toArray := by
    have := Blk.new wx 80 (vcells 65 0 0 0 ⟨#[]⟩ none 0 0 none 0 0).toArray; rwa [hs] at this
  have hk2 : Blk (wx.alloc (.cells (vcells 65 0 0 0 ⟨#[]⟩ none 0 0 none 0 0).toArray 80)) w.heap.size 80 (vcells 0 0 0 0 ⟨#[]⟩ none 0 0 none 0 0).toArray := hk.alloc _
  have hb2 : Below w.heap.size w (wx.alloc (.cells (vcells 65 0 0 0 ⟨#[]⟩ none 0 0 none 0 0).toArray 80)) := hb.alloc (by omega) _
  have hs2 : (wx.alloc (.cells (vcells 65 0 0 0 ⟨#[]⟩ none 0 0 none 0 0).toArray 80)).heap.size = w.heap.size + 2 := by simp [hs]
  go_upto_region 53 with fail
  generalize wx.alloc (.cells (vcells 65 0 0 0 ⟨#[]⟩ none 0 0 none 0 0).toArray 80) = wy at hm hk2 hb2 hs2 ⊢
  have HS2 := Lib.hid hs2
  clear hs2 hk hb hs
  go_wp2_with fail
  go_loopw [124] (fun i wr => ∃ (j : Nat) (rest dn : Vs) (cs : List Value) (sv : Value), i = .int .i64 j ∧ rest.len + j = ks.len ∧ dn.len = j ∧ ks = dn.app rest ∧ rest.ok ∧ rest.good ∧ rest.ht ≤ n ∧ AnyVs w p rest (xs.drop j) ∧
    Blk wr (w.heap.size + 1) 80 #[.int .u8 65, .int .i64 0, .float .f64 0, .int .i64 0, .string ⟨#[]⟩, sv, .slice none 0 0] ∧ Blk wr w.heap.size 80 (vcells 0 0 0 0 ⟨#[]⟩ none 0 0 none 0 0).toArray ∧
    wr.ownsRow (w.heap.size + 2) 80 7 sv j cs ∧ VsC wr (fun g => (w.heap.size + 2 ≤ g ∧ g < wr.heap.size) ∧ some g ≠ sv.ownBlock) dn.nrm cs ∧ Below w.heap.size w wr) (fun i _ => ks.len - (intOf i).toNat)
  case atStart => exact ⟨0, ks, .nil, [], .slice none 0 0, rfl, rfl, rfl, rfl, Hok.out, HG.out, hht, HA.out, hm, hk2, World.ownsRow_nil _ _ _ _, by rw [Vs.nrm, VsC], hb2⟩
  case round =>
    obtain ⟨j, rest, dn, cs, sv, rfl, hrest, hdj, hks, hro, hrg, hrh, hrA, hlb, hres, hown, hcs, hbel⟩ := hrel
    have Hks := Lib.hid hks
    have HDj := Lib.hid hdj
    have HCs := Lib.hid hcs
    have hsz := hbel.size
    have hlbl := hlb.lt
    clear hks hdj hcs hm hk2 hb2
    cases rest with
    | nil =>
      rw [Vs.len] at hrest
      have hjk : j = ks.len := by omega
      clear hrest
      subst hjk
      have hdn : ks = dn := by rw [Hks.out, Vs.app_nil]
      have HDn := Lib.hid hdn
      obtain ⟨A6, c6, rfl⟩ := own_shape hown
      obtain ⟨b0, b1, b2, b3, b4, b5, b6⟩ := hlb.seven
      obtain ⟨d0, d1, d2, d3, d4, d5, d6⟩ := hres.seven
      have fz := fun i => hres.frozen i
      obtain ⟨e0, e1, e2⟩ := hres.set7 (.int .u8 65) (.int .i64 0) (.float .f64 0) (.int .i64 0) (.string ⟨#[]⟩) (.slice A6 ks.len c6) (.slice none 0 0)
      have hpost : TOut w (.mk 65 m f s t ks fs) (.returned (.tuple #[.agg (vcells 65 0 0 0 ⟨#[]⟩ A6 ks.len c6 none 0 0).toArray, .bool true])) (put7 wr w.heap.size (.int .u8 65) (.int .i64 0) (.float .f64 0) (.int .i64 0) (.string ⟨#[]⟩) (.slice A6 ks.len c6) (.slice none 0 0)) := by
        refine ⟨_, rfl, ?_, res_put (z := #[]) hres hbel _ _ _ _ _ _ _ rfl⟩
        obtain ⟨y1, y2⟩ := Rd.of_own (p := fun g => w.heap.size + 2 ≤ g ∧ g < wr.heap.size) hown (fun g _ h1 h2 => ⟨h1, h2⟩)
        have hmo : ∀ g, (w.heap.size + 2 ≤ g ∧ g < wr.heap.size) → New w (put7 wr w.heap.size (.int .u8 65) (.int .i64 0) (.float .f64 0) (.int .i64 0) (.string ⟨#[]⟩) (.slice A6 ks.len c6) (.slice none 0 0)) g := fun g hg => ⟨by omega, by rw [e2]; exact hg.2⟩
        have hcs' := HCs.out
        rw [← HDn.out] at hcs'
        rw [Hv.out, RdV]
        exact ⟨A6, c6, none, 0, cs, [], by rw [Vs.len_nrm]; rfl, (y1.keep (fun g hg => e1 g (by omega))).more hmo, (hcs'.keep (fun g hg => e1 g (by have := hg.1.1; omega))).more (fun g hg => hmo g hg.1), by rw [Vs.len_nrm]; exact y2, fun h => absurd rfl h, by rw [FsC], Nat.le_refl _⟩
      have HPost := Lib.hid hpost
      obtain ⟨j0, j1, j2, j3, j4, j5, j6⟩ := e0.seven
      clear e0 e1 e2 hpost hlb hres hown hbel hdn hsz hlbl
      go_wp2_with fail
      exact bodyPost_ret (v := .tuple #[.agg (vcells 65 0 0 0 ⟨#[]⟩ A6 ks.len c6 none 0 0).toArray, .bool true]) (by simp [results, Try.results43, go_sem, j0, j1, j2, j3, j4, j5, j6]) rfl HPost.out
    | cons u q =>
      rw [Vs.len] at hrest
      obtain ⟨bb, off, x, rfl, hpb, e0, hxv, hrA2⟩ := AnyVs.at_ HR.out hrA
      rw [← World.cell?_of_block (w := w) (w' := wr) (a := ⟨bb, off + j, none⟩) (hbel.block bb (HP.out bb hpb))] at e0
      have hk0 : (0 : Int) ≤ (j : Int) := by omega
      have hk1 : (j : Int) < (ks.len : Int) := by omega
      rw [Vs.ok] at hro
      obtain ⟨o2, o3⟩ := hro
      rw [Vs.good] at hrg
      obtain ⟨g3, g4⟩ := hrg
      rw [Vs.ht] at hrh
      have hht2 : u.ht ≤ n ∧ q.ht ≤ n := by omega
      have HC := Lib.hid (HV.out u x p wr hht2.1 g3 o2 (hxv.keep (fun g hg => hbel.block g (HP.out g hg)) (fun g hg => hg)) (fun g hg => by have := HP.out g hg; omega))
      have HRA2 := Lib.hid hrA2
      clear hrh hxv hrA hrA2
      go_wp2_with fail
      refine HC.out.mono ?_
      rintro e w2 ⟨cs2, rfl, hrd, hbel2⟩
      obtain ⟨un, hun⟩ : ∃ un, un = u.nrm := ⟨_, rfl⟩
      rw [← hun] at hrd
      have HUn := Lib.hid hun
      clear hun
      obtain ⟨k', n', f', s', t', ks', fs'⟩ := un
      rw [RdV] at hrd
      obtain ⟨a1', c1', a2', c2', xs', ys', rfl, z1, z2, z3, z4, z5, z6⟩ := hrd
      have hs2' := hbel2.size
      have hlb2 := hlb.below hbel2 hlbl
      have hres2 := hres.below hbel2 hres.lt
      have hown2 := own_keep2 hown (fun g hg => hbel2.block g (hown.lt g hg).2)
      have hrow := hown.lt
      have hq : Blk (w2.alloc (.cells (vcells k' n' f' s' t' a1' ks'.len c1' a2' fs'.len c2').toArray 80)) w2.heap.size 80 (vcells k' n' f' s' t' a1' ks'.len c1' a2' fs'.len c2').toArray := Blk.new w2 80 _
      have hlb3 := hlb2.alloc (.cells (vcells k' n' f' s' t' a1' ks'.len c1' a2' fs'.len c2').toArray 80)
      have hres3 := hres2.alloc (.cells (vcells k' n' f' s' t' a1' ks'.len c1' a2' fs'.len c2').toArray 80)
      have hown3 := hown2.alloc (.cells (vcells k' n' f' s' t' a1' ks'.len c1' a2' fs'.len c2').toArray 80)
      have hbel3 : Below wr.heap.size wr (w2.alloc (.cells (vcells k' n' f' s' t' a1' ks'.len c1' a2' fs'.len c2').toArray 80)) := hbel2.alloc hs2' _
      have hk3 : ∀ g, g < w2.heap.size → (w2.alloc (.cells (vcells k' n' f' s' t' a1' ks'.len c1' a2' fs'.len c2').toArray 80)).heap[g]? = w2.heap[g]? := fun g hg => Below.heap_alloc _ _ _ hg
      have hs3 : (w2.alloc (.cells (vcells k' n' f' s' t' a1' ks'.len c1' a2' fs'.len c2').toArray 80)).heap.size = w2.heap.size + 1 := by simp
      have HZ1 := Lib.hid z1
      have HZ2 := Lib.hid z2
      have HZ4 := Lib.hid z4
      have HZ5 := Lib.hid z5
      clear z1 z2 z4 z5 hlb2 hres2 hown2 hbel2 hlb hres hown e0
      go_upto_region 57 with fail
      generalize w2.alloc (.cells (vcells k' n' f' s' t' a1' ks'.len c1' a2' fs'.len c2').toArray 80) = w3 at hq hlb3 hres3 hown3 hbel3 hk3 hs3 ⊢
      have HK3 := Lib.hid hk3
      have HS3 := Lib.hid hs3
      have hql := hq.lt
      clear hk3 hs3
      obtain ⟨v0, v1, v2, v3, v4, v5, v6⟩ := hq.seven
      have yb := hlb3.seven.2.2.2.2.2.1
      have HRow := Lib.hid hrow
      have HQ := Lib.hid hq
      clear hrow hq
      go_wp2_with (at_builtin; refine wpList_append_src _ rfl (.tmp 137) (.tmp 139) 78 78 rfl (w.heap.size + 2) 80 i1 _ 7 96 under78 hi1 hz1 hs1 hb1 rfl sv j cs rfl (hown3.alloc _) _ 1 _ rfl (src80 w3 k' n' f' s' t' a1' ks'.len c1' a2' fs'.len c2') (by unfold maxLen; omega) (by omega) (by have := HS3.out; simp; omega) ?_)
      intro v' w5 hown5 hg5 hat5
      obtain ⟨A5, c5, rfl⟩ := own_shape hown5
      have hnb : ∀ g, g < w.heap.size + 2 → some g ≠ sv.ownBlock := fun g hg e => by have := (HRow.out g e.symm).1; omega
      have hsx : w3.heap.size + 1 ≤ w5.heap.size := by have := hg5.size; simpa using this
      have hk5 : ∀ g, g < w3.heap.size → some g ≠ sv.ownBlock → w5.heap[g]? = w3.heap[g]? := fun g h1 h2 => (hg5.block g (by simp; omega) h2).trans (Below.heap_alloc _ _ _ h1)
      have hlb5 : Blk w5 (w.heap.size + 1) 80 #[.int .u8 65, .int .i64 0, .float .f64 0, .int .i64 0, .string ⟨#[]⟩, sv, .slice none 0 0] := (hk5 _ hlb3.lt (hnb _ (by omega))).trans hlb3
      have hres5 : Blk w5 w.heap.size 80 (vcells 0 0 0 0 ⟨#[]⟩ none 0 0 none 0 0).toArray := (hk5 _ hres3.lt (hnb _ (by omega))).trans hres3
      have yb5 := hlb5.seven.2.2.2.2.2.1
      have fb5 := hlb5.frozen 5
      have hbel5 : Below w.heap.size w w5 := ((hbel.trans (hbel3.mono hsz)).alloc (by have := HS3.out; omega) _).grown hg5 (by have := HS3.out; simp; omega) (fun g hg => by have := (HRow.out g hg).1; omega)
      have hs9 : (w5.setCell ⟨w.heap.size + 1, 5, none⟩ (.slice A5 (j + 1) c5)).heap.size = w5.heap.size := by simp [World.setCell]
      have hk9 : ∀ g, g ≠ w.heap.size + 1 → (w5.setCell ⟨w.heap.size + 1, 5, none⟩ (.slice A5 (j + 1) c5)).heap[g]? = w5.heap[g]? := fun g hg => Below.heap_setCell _ _ _ _ hg
      have f1 : Blk (w5.setCell ⟨w.heap.size + 1, 5, none⟩ (.slice A5 (j + 1) c5)) (w.heap.size + 1) 80 #[.int .u8 65, .int .i64 0, .float .f64 0, .int .i64 0, .string ⟨#[]⟩, .slice A5 (j + 1) c5, .slice none 0 0] := by
        have := hlb5.set_ 5 (.slice A5 (j + 1) c5); simpa using this
      have f2 : Blk (w5.setCell ⟨w.heap.size + 1, 5, none⟩ (.slice A5 (j + 1) c5)) w.heap.size 80 (vcells 0 0 0 0 ⟨#[]⟩ none 0 0 none 0 0).toArray := hres5.far (by simp) _
      have f3 : (w5.setCell ⟨w.heap.size + 1, 5, none⟩ (.slice A5 (j + 1) c5)).ownsRow (w.heap.size + 2) 80 7 (.slice A5 (j + 1) c5) (j + 1) (cs ++ vcells k' n' f' s' t' a1' ks'.len c1' a2' fs'.len c2') := own_keep2 hown5 (fun g hg => hk9 g (by have := (hown5.lt g hg).1; omega))
      have f4 : Below w.heap.size w (w5.setCell ⟨w.heap.size + 1, 5, none⟩ (.slice A5 (j + 1) c5)) := hbel5.setCell (by simp) _
      have hloc : ∀ g, g < w3.heap.size → some g ≠ sv.ownBlock → some g ≠ (Value.slice A5 (j + 1) c5).ownBlock := fun g hg hne e => by
        rcases hat5 with h | h
        · rw [h] at e; exact hne e
        · rw [h] at e; injection e with e; omega
      have f5 : VsC (w5.setCell ⟨w.heap.size + 1, 5, none⟩ (.slice A5 (j + 1) c5)) (fun g => (w.heap.size + 2 ≤ g ∧ g < (w5.setCell ⟨w.heap.size + 1, 5, none⟩ (.slice A5 (j + 1) c5)).heap.size) ∧ some g ≠ (Value.slice A5 (j + 1) c5).ownBlock) (dn.app (.cons u .nil)).nrm (cs ++ vcells k' n' f' s' t' a1' ks'.len c1' a2' fs'.len c2') := by
        rw [Vs.nrm_app, Vs.nrm, Vs.nrm, ← HUn.out, hs9]
        refine VsC.snoc ?_ ?_
        · have hnw : ∀ g, New wr w2 g → (w.heap.size + 2 ≤ g ∧ g < w5.heap.size) ∧ some g ≠ (Value.slice A5 (j + 1) c5).ownBlock := fun g hg => by
            have h1 := hg.1
            have h2 := hg.2
            have := HS3.out
            refine ⟨⟨by omega, by omega⟩, hloc g (by omega) (fun e => ?_)⟩
            have := (HRow.out g e.symm).2
            omega
          have hkn : ∀ g, New wr w2 g → (w5.setCell ⟨w.heap.size + 1, 5, none⟩ (.slice A5 (j + 1) c5)).heap[g]? = w2.heap[g]? := fun g hg => by
            have h1 := hg.1
            have h2 := hg.2
            have h3 := HS3.out
            exact ((hk9 g (by omega)).trans (hk5 g (by omega) (fun e => by have := (HRow.out g e.symm).2; omega))).trans (HK3.out g h2)
          rw [RdV]
          exact ⟨a1', c1', a2', c2', xs', ys', rfl, (HZ1.out.keep hkn).more hnw, (HZ2.out.keep hkn).more hnw, z3, (HZ4.out.keep hkn).more hnw, (HZ5.out.keep hkn).more hnw, z6⟩
        · refine (HCs.out.keep (fun g hg => ?_)).more (fun g hg => ?_)
          · have h1 := hg.1.1
            have h2 := hg.1.2
            have h3 := HS3.out
            exact ((hk9 g (by omega)).trans (hk5 g (by omega) hg.2)).trans (hbel3.block g h2)
          · have h2 := hg.1.2
            have h3 := HS3.out
            exact ⟨⟨hg.1.1, by omega⟩, hloc g (by omega) hg.2⟩
      have F5 := Lib.hid f5
      have F3 := Lib.hid f3
      clear f5 f3 hloc hk9 hs9 hbel5 hk5 hres5 hnb hown5 hg5 hat5
      go_upto_region 60 with fail
      generalize w5.setCell ⟨w.heap.size + 1, 5, none⟩ (.slice A5 (j + 1) c5) = w9 at F5 F3 f1 f2 f4 ⊢
      go_wp2
      refine ⟨⟨j + 1, q, dn.app (.cons u .nil), _, _, by go_num, by omega, by rw [Vs.len_app, HDj.out]; rfl, ?_, o3, g4, hht2.2, HRA2.out, f1, f2, F3.out, F5.out, f4⟩, by simp [intOf]; omega⟩
      rw [Vs.app_assoc]
      exact Hks.out

end Go.Proofs.Ytkcdakohmfodjaa
