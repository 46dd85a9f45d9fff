/-
  FnTableRead: impl.fields: the fields of a map in growing order of their names; all values that are told.
-/
import Derived.Test.YtkcdakohmfodjaaTh
import Derived.Test.YtkcdakohmfodjaaSf
import Derived.Test.YtkcdakohmfodjaaSo
import Derived.Shelf.SlSortCmp.NoneTotal
namespace Go.Proofs.Ytkcdakohmfodjaa
open Go.RowKit Go.Sort Go.Maps Go.Shelf
attribute [local go_sem ↓] Go.wp_at_zero Go.wp_at_succ

theorem under22 : Try.prog.underlying 22 = some (.slice 82) := by kernel_rfl
theorem info82 : (Try.prog.info? 82).map (fun i => (i.zero, i.size, i.bytes)) = some (some (.agg #[.string ⟨#[]⟩, .int .u8 0, .int .i64 0, .float .f64 0, .int .i64 0, .string ⟨#[]⟩, .slice none 0 0, .slice none 0 0]), 8, 112) := by kernel_rfl
theorem src82 (w2 : World) (x : R8) : Src Try.prog 8 22 (.slice (some ⟨w2.heap.size, 0, none⟩) 1 1) 1 x.enc (w2.alloc (.cells x.enc.toArray 82)) :=
  Src.ofSlice _ under22 ⟨w2.heap.size, 0, none⟩ 1 1 _ rfl (by have := World.news_of_block (Blk.new w2 82 x.enc.toArray); simpa using this) x.enc_one

set_option maxRecDepth 100000 in
set_option maxHeartbeats 1000000 in
/-- the comparison of two fields: two blocks are laid -/
theorem closure45 (x y : R8) (W : World) : Calls Try.prog 45 #[.agg x.enc.toArray, .agg y.enc.toArray] W fun e w' => e = .returned (.int .i64 (cf8 x y)) ∧ ∃ q os', w' = grow (W.drewN q) os' := by
  have hc : cf8 x y = if Go.Op.bytesLess x.name.toList y.name.toList = true then -1 else 1 := by
    unfold cf8
    have h1 := nameLess_lt x.name y.name
    unfold nameLess at h1
    by_cases h : x.name.data.toList < y.name.data.toList
    · rw [if_pos h, if_pos (h1.2 h)]
    · rw [if_neg h, if_neg (fun e => h (h1.1 e))]
  rw [hc]
  clear hc
  obtain ⟨xn, xv, xk, xnn, xf, xs, xt, xa1, xn1, xc1, xa2, xn2, xc2⟩ := x
  obtain ⟨yn, yv, yk, ynn, yf, ys, yt, ya1, yn1, yc1, ya2, yn2, yc2⟩ := y
  simp only [R8.enc, R8.cells]
  cases hl : Go.Op.bytesLess xn.toList yn.toList
  all_goals
    go_enter Try.func45, Try.ntmps45
    go_wp2_with fail
    go_ret
    exact ⟨rfl, 0, _, by rw [alloc_eq_grow, alloc_eq_grow, grow_grow]; rfl⟩

theorem cmpLays45 (blk off size : Nat) (w : World) : CmpLays Try.prog 45 #[] R8.enc 8 cf8 blk off size w :=
  fun _ _ _ _ x y => closure45 x y _

/-- the sort of an own row of fields -/
theorem sort44 {w : World} {g cap : Nat} (l : List R8) (hH : HoldsK R8.enc 8 w g 0 l.toArray) (hg : g < w.heap.size) (hl : l.length ≤ 1000000) :
    Calls Try.prog 44 #[.slice (some ⟨g, 0, none⟩) l.length cap, .func (.func 45) #[] #[]] w fun e w' => e = .returned (.tuple #[]) ∧ ∃ d' n os, PermIn 0 l.toArray.size l.toArray d' ∧ SortedIn (ltOf cf8) 0 l.toArray.size d' ∧ w' = sortWorldK R8.enc 8 w g 0 n d' os := by
  have eg : ∀ args w, (callFunc 45 args).run Try.prog w = .ok (.enter 45 args) w := enters_of Try.func45 (by kernel_rfl) rfl
  have hcon := AnyQ.slices_SortFunc Try.sortF 8 Try.isAgg82 Try.sizeOf82 R8.enc (fun x => x.enc_len) (fun x => x.enc_one) cf8 swo8 45 #[] g 0 cap l.toArray w eg (cmpLays45 g 0 l.toArray.size w) hH hg (by simp; omega)
  have e0 : l.toArray.size = l.length := by simp
  rw [← e0]
  exact hcon
theorem sort44_none (p : Option Addr) (cap : Nat) (fv : Value) (w : World) : Calls Try.prog 44 #[.slice p 0 cap, fv] w fun e w' => e = .returned (.tuple #[]) ∧ w' = w :=
  AnyF.slices_SortFunc_none Try.sortF p cap fv w

theorem Fs.nms_names : ∀ fs : Fs, fs.nms = fs.names
  | .nil => rfl
  | .cons n v r => by rw [Fs.nms, Fs.names, Fs.nms_names r]
theorem Fs.nrm_names : ∀ fs : Fs, fs.nrm.nms = fs.names
  | .nil => rfl
  | .cons n v r => by rw [Fs.nrm, Fs.nms, Fs.names, Fs.nrm_names r]
theorem Fs.toL_nrm : ∀ fs : Fs, fs.nrm.toL = fs.toL.map (fun x => (x.1, x.2.nrm))
  | .nil => rfl
  | .cons n v r => by rw [Fs.nrm, Fs.toL, Fs.toL, List.map_cons, Fs.toL_nrm r]
theorem Fs.toL_len : ∀ fs : Fs, fs.toL.length = fs.len
  | .nil => rfl
  | .cons n v r => by rw [Fs.toL, List.length_cons, Fs.toL_len r, Fs.len]

/-- an entry of a map, by its name -/
theorem EntV.find {w : World} {p : Nat → Prop} {D : DataW Value} {x : List UInt8} : ∀ (fs : Fs) (prev : Option ByteArray), EntV w p fs D → fs.good prev → fs.ok → x ∈ fs.names →
    ∃ name v y, name.data.toList = x ∧ (name, v) ∈ fs.toL ∧ (∀ z, D.atKey (.string x) z = .held y) ∧ AnyV w p v y ∧ v.good ∧ v.ok ∧ v.ht ≤ fs.ht
  | .nil, _, _, _, _, hx => by simp [Fs.names] at hx
  | .cons name v r, prev, h, hg, ho, hx => by
    rw [EntV] at h
    obtain ⟨⟨y, hy, hv⟩, hr⟩ := h
    rw [Fs.good] at hg
    rw [Fs.ok] at ho
    rw [Fs.names] at hx
    by_cases he : x = name.data.toList
    · subst he
      refine ⟨name, v, y, rfl, by rw [Fs.toL]; exact List.mem_cons_self, hy, hv, hg.2.2.1, ho.2.1, by rw [Fs.ht]; omega⟩
    · have hx' : x ∈ r.names := by
        rcases List.mem_cons.1 hx with h | h
        · exact absurd h he
        · exact h
      obtain ⟨nm, u, y', a1, a2, a3, a4, a5, a6, a7⟩ := EntV.find r (some name) hr hg.2.2.2 ho.2.2 hx'
      exact ⟨nm, u, y', a1, by rw [Fs.toL]; exact List.mem_cons_of_mem _ a2, a3, a4, a5, a6, by rw [Fs.ht]; omega⟩

set_option maxRecDepth 100000 in
set_option maxHeartbeats 8000000 in
theorem told_tab (n : Nat) (hV : TVals n) : TTabs n := by
  intro fs prev b p w hht hgood hok hlen hTab hp
  obtain ⟨D, hpb, hM, hE⟩ := hTab
  obtain ⟨i0, hi, hz0, hz1, hz2⟩ := info_parts info82
  have hgrow := (names_grow fs prev hgood).1
  obtain ⟨hown, hns⟩ := hM
  have hbl := hown.lt
  have hsz := hown.size_le
  have HV := Lib.hid hV
  have HG := Lib.hid hgood
  have Hok := Lib.hid hok
  have HE := Lib.hid hE
  have HNS := Lib.hid hns
  have HGr := Lib.hid hgrow
  have HP := Lib.hid hp
  clear hV hgood hok hE hns hgrow hp
  go_enter Try.func29, Try.ntmps29
  go_wp2_with (at_range; refine wpList_range_own _ rfl _ 53 rfl 9 20 law9 under53 anyElem b fs.len D rfl hown ?_; intro w0 hrg0 hg0 hs0)
  go_frame
  go_loopw [4] (fun v wr => ∃ (left : Lit → Bool) (cnt : Nat) (l : List R8), wr.ranges Try.prog 9 anyElem b w.heap.size fs.len D left cnt ∧ l.length + cnt ≤ Maps.size D ∧
      wr.ownsRow (w.heap.size + 1) 82 8 v l.length (l.flatMap R8.enc) ∧ Collected D left (l.map (fun x => x.name.data.toList)) ∧
      (∀ x ∈ l, (x.name, x.v) ∈ fs.nrm.toL ∧ RdV wr (fun g => (w.heap.size + 1 ≤ g ∧ g < wr.heap.size) ∧ some g ≠ v.ownBlock) x.v x.cells) ∧ Below w.heap.size w wr)
    (fun _ wr => wr.rangeLeft b w.heap.size)
  case atStart =>
    exact ⟨_, _, [], hrg0, by simp, World.ownsRow_nil _ _ _ _, Collected.start D, (fun x hx => by cases hx), (Below.refl _ _).grown hg0 (Nat.le_refl _) (fun j hj => by cases hj)⟩
  case round =>
    obtain ⟨left, cnt, l, hrg, hcs, hrow, hC, hAll, hnx⟩ := hrel
    have HAll := Lib.hid hAll
    clear hg0 hs0 hrg0 hAll
    go_wp2_with (at_next; refine wpList_next_ranges _ rfl _ rfl 9 law9 anyElem encStr (fun v : Value => v) (fun key kl hk => by obtain ⟨x, hx, _⟩ := Maps.keyOf_str Try.underlying9 hk; exact ⟨x, hx⟩) (fun v y hv => ⟨v, rfl⟩) b w.heap.size fs.len D left cnt rfl hrg ?_ ?_)
    · intro hc0 hl0
      have hperm : (l.map (fun x => x.name.data.toList)).Perm fs.nrm.nms := by
        rw [Fs.nrm_names]
        refine (List.perm_ext_iff_of_nodup hC.1 (grow_nodup HGr.out)).2 fun x => ?_
        rw [hC.2 x, HNS.out x, hl0]
        simp
      have hll : l.length = fs.len := by
        have := hperm.length_eq
        rw [List.length_map, Fs.nrm_names, names_len] at this
        exact this
      have HPerm := Lib.hid hperm
      have HLL := Lib.hid hll
      clear hperm hc0 hl0
      rcases hrow.2 with ⟨hnil, h0⟩ | ⟨g, cap, cur, hv, hbase, hb, h1, h2, h3, h4⟩
      · have hss : l = [] := List.eq_nil_of_length_eq_zero h0
        subst hnil hss
        go_wp2_with fail
        refine (sort44_none none 0 _ _).mono ?_
        rintro e w' ⟨rfl, rfl⟩
        go_wp2_with fail
        go_ret2
        have h0' : fs.len = 0 := by have := HLL.out; simpa using this.symm
        have hfs : fs = .nil := by cases fs with
          | nil => rfl
          | cons a b c => simp [Fs.len] at h0'
        subst hfs
        exact ⟨none, 0, [], rfl, Nat.le_refl _, fun h => absurd rfl h, by rw [Fs.nrm, FsC], hnx⟩
      · subst hv
        have hH := holds_rows hrow
        have hgl : g < wr.heap.size := (Array.getElem?_eq_some_iff.1 hb).1
        have HS := Lib.hid (sort44 (cap := cap) l hH hgl (by have := HLL.out; omega))
        have HH := Lib.hid hH
        have hls : l.length ≤ cap := h1
        have Hll2 := Lib.hid hll
        clear hb h3 h4 hH h2 hll
        go_wp2_with fail
        refine HS.out.mono ?_
        rintro e w' ⟨rfl, d', nn, os, hpm, hso, hw'⟩
        have HW := Lib.hid hw'
        have HPm := Lib.hid hpm
        have HSo := Lib.hid hso
        clear hw' hpm hso
        go_wp2_with fail
        go_ret2
        obtain ⟨r1, r2, r3⟩ := sorted_rows (fs := fs.nrm) (by rw [Fs.nrm_names]; exact HGr.out) l.toArray d' (by simpa using HPerm.out) (fun x hx => (HAll.out x (by simpa using hx)).1) HPm.out HSo.out
        have hgb := grownBy_sortedK (w := wr) (g := g) (n := nn) (os := os) d'
        rw [← HW.out] at hgb
        have hrd : Rd w' (New w w') (some ⟨g, 0, none⟩) (d'.toList.flatMap R8.enc) := by
          rw [HW.out]
          refine rd_sorted d' HH.out hgl (by simpa using r2) ⟨by omega, ?_⟩
          rw [← HW.out]
          have := hgb.size
          omega
        refine ⟨some ⟨g, 0, none⟩, cap, d'.toList.flatMap R8.enc, by rw [Hll2.out]; rfl, by rw [← Hll2.out]; exact hls, hrd, ?_, hnx.grown hgb hnx.size (fun j hj => by injection hj with hj; omega)⟩
        refine FsC.of_rows d'.toList fs.nrm r1 (fun x hx => ?_)
        have hx' : x ∈ l := by simpa using r3.mem_iff.1 hx
        refine ((HAll.out x hx').2.keep (fun k hk => hgb.block k hk.1.2 (fun e => hk.2 e))).more (fun k hk => ⟨by omega, ?_⟩)
        have := hgb.size
        omega
    · intro x c kl yd yp w2 cnt2 hkey hlk hv hat hrg2 hlt hg2 hs2 hen
      obtain ⟨x', ex, rfl, _⟩ := Maps.keyOf_str Try.underlying9 hkey
      obtain rfl : x = x' := encStr_inj ex
      have hx : x ∈ fs.names := (HNS.out x).1 (has_true_of_atKey hat)
      obtain ⟨name, v, y, hnx2, hmem, hat2, hav, hvg, hvo, hvh⟩ := EntV.find fs prev HE.out HG.out Hok.out hx
      subst hnx2
      have hcy : c = y := by
        have h1 := hat (.held c)
        rw [hat2] at h1
        simp only [anyElem, Option.some.injEq, Prod.mk.injEq] at hv
        obtain ⟨rfl, rfl⟩ := hv
        injection h1 with h1
        exact h1.symm
      subst hcy
      have henc : encStr name.data.toList = .string name := by simp [encStr]
      rw [henc] at hen
      have hk2 : ∀ g, g < wr.heap.size → g ≠ w.heap.size → w2.heap[g]? = wr.heap[g]? := fun g h1 h2 => hg2.block g h1 (fun e => h2 (by injection e))
      have hszr := hnx.size
      have HC := Lib.hid (HV.out v c p w2 (by omega) hvg hvo (hav.keep (fun g hg => (hk2 g (by have := HP.out g hg; omega) (by have := HP.out g hg; omega)).trans (hnx.block g (HP.out g hg))) (fun g hg => hg)) (fun g hg => by have := HP.out g hg; omega))
      have hrow2 := World.ownsRow.kept hrow hg2 (Or.inr (row_ne_iter hrow hrg).symm)
      have hrowl := hrow.lt
      have HRowl := Lib.hid hrowl
      have HMem := Lib.hid hmem
      have HK2 := Lib.hid hk2
      have HHat := Lib.hid hat
      have HLk := Lib.hid hlk
      have HEnc := Lib.hid henc
      have Hs2 := Lib.hid hs2
      clear hs2 hx hat2 hav hvg hvo hvh hmem hk2 hv hkey ex henc hrow hrowl hat hlk
      go_wp2_with fail
      refine HC.out.mono ?_
      rintro e w3 ⟨cs2, rfl, hrd, hbel3⟩
      obtain ⟨un, hun⟩ : ∃ un, un = v.nrm := ⟨_, rfl⟩
      rw [← hun] at hrd
      have HUn := Lib.hid hun
      clear hun
      obtain ⟨k', n', f', s', t', ks', fs'⟩ := un
      rw [RdV] at hrd
      obtain ⟨a1', c1', a2', c2', xs', ys', rfl, z1, z2, z3, z4, z5, z6⟩ := hrd
      have hs3 := hbel3.size
      have hown3 := own_keep2 hrow2 (fun g hg => hbel3.block g (by have := (HRowl.out g hg).2; have := Hs2.out; omega))
      have hg3 : w2.grownBy w3 none := ⟨hbel3.os, hbel3.tape, hbel3.output, hbel3.size, fun k hk _ => hbel3.block k hk⟩
      have hrg3 := hrg2.kept hg3 (by simp) (by simp)
      have hq : Blk (w3.alloc (.cells (vcells k' n' f' s' t' a1' ks'.len c1' a2' fs'.len c2').toArray 80)) w3.heap.size 80 (vcells k' n' f' s' t' a1' ks'.len c1' a2' fs'.len c2').toArray := Blk.new w3 80 _
      have hown4 := hown3.alloc (.cells (vcells k' n' f' s' t' a1' ks'.len c1' a2' fs'.len c2').toArray 80)
      have hrg4 := hrg3.alloc (.cells (vcells k' n' f' s' t' a1' ks'.len c1' a2' fs'.len c2').toArray 80)
      have hk4 : ∀ g, g < w3.heap.size → (w3.alloc (.cells (vcells k' n' f' s' t' a1' ks'.len c1' a2' fs'.len c2').toArray 80)).heap[g]? = w3.heap[g]? := fun g hg => Below.heap_alloc _ _ _ hg
      have hbel4 : Below w2.heap.size w2 (w3.alloc (.cells (vcells k' n' f' s' t' a1' ks'.len c1' a2' fs'.len c2').toArray 80)) := hbel3.alloc hs3 _
      have hs4 : (w3.alloc (.cells (vcells k' n' f' s' t' a1' ks'.len c1' a2' fs'.len c2').toArray 80)).heap.size = w3.heap.size + 1 := by simp
      have HZ1 := Lib.hid z1
      have HZ2 := Lib.hid z2
      have HZ4 := Lib.hid z4
      have HZ5 := Lib.hid z5
      have HRg := Lib.hid hrg
      have HG2 := Lib.hid hg2
      clear z1 z2 z4 z5 hrow2 hown3 hg3 hrg3 hrg2 hrg hg2 hen
      go_upto_region 6 with fail
      generalize w3.alloc (.cells (vcells k' n' f' s' t' a1' ks'.len c1' a2' fs'.len c2').toArray 80) = w4 at hq hown4 hrg4 hk4 hbel4 hs4 ⊢
      obtain ⟨v0, v1, v2, v3, v4, v5, v6⟩ := hq.seven
      have hql := hq.lt
      have HS4 := Lib.hid hs4
      have HK4 := Lib.hid hk4
      have HRg4 := Lib.hid hrg4
      have HQ := Lib.hid hq
      clear hs4 hk4 hrg4 hq
      have hsrc : Src Try.prog 8 22 (.slice (some ⟨w4.heap.size, 0, none⟩) 1 1) 1 (Value.string name :: vcells k' n' f' s' t' a1' ks'.len c1' a2' fs'.len c2') (w4.alloc (.cells (Value.string name :: vcells k' n' f' s' t' a1' ks'.len c1' a2' fs'.len c2').toArray 82)) :=
        src82 w4 ⟨name, v.nrm, k', n', f', s', t', a1', ks'.len, c1', a2', fs'.len, c2'⟩
      go_wp2_with (at_builtin; refine wpList_append_src _ rfl (.tmp 23) (.tmp 27) 22 22 rfl (w.heap.size + 1) 82 i0 _ 8 112 under22 hi hz0 hz1 hz2 rfl _ l.length (l.flatMap R8.enc) rfl (hown4.alloc _) _ 1 _ rfl hsrc (by unfold maxLen; omega) (by omega) (by have := HS4.out; have := Hs2.out; simp; omega) ?_; intro v' w5 hown5 hg5 hat5; go_frame)
      have hsx : w4.heap.size + 1 ≤ w5.heap.size := by have := hg5.size; simpa using this
      have hnbi : ∀ {u : Value}, (∀ g, u.ownBlock = some g → w.heap.size + 1 ≤ g) → some w.heap.size ≠ u.ownBlock ∧ some b ≠ u.ownBlock := fun h => ⟨fun e => by have := h _ e.symm; omega, fun e => by have := h _ e.symm; omega⟩
      obtain ⟨hnb1, hnb2⟩ := hnbi (fun g hg => (hown4.lt g hg).1)
      have hrg5 := (HRg4.out.alloc (.cells (Value.string name :: vcells k' n' f' s' t' a1' ks'.len c1' a2' fs'.len c2').toArray 82)).kept hg5 hnb2 hnb1
      have hk5 : ∀ g, g < w4.heap.size → some g ≠ _ → w5.heap[g]? = w4.heap[g]? := fun g h1 h2 => (hg5.block g (by simp; omega) h2).trans (Below.heap_alloc _ _ _ h1)
      have hloc : ∀ g, g < w4.heap.size → some g ≠ _ → some g ≠ v'.ownBlock := fun g hg hne e => by
        rcases hat5 with h | h
        · rw [h] at e; exact hne e
        · rw [h] at e; injection e with e; simp at e; omega
      have hmemn : (name, v.nrm) ∈ fs.nrm.toL := by
        rw [Fs.toL_nrm]
        exact List.mem_map.2 ⟨_, HMem.out, rfl⟩
      have hbel5 : Below w.heap.size w w5 := (((hnx.grown HG2.out hszr (fun j hj => by injection hj with hj; omega)).trans (hbel4.mono (by have := Hs2.out; omega))).alloc (by have := HS4.out; have := Hs2.out; omega) _).grown hg5 (by have := HS4.out; have := Hs2.out; simp; omega) (fun j hj => by have := (hown4.lt j hj).1; omega)
      go_roundw
      case rel =>
        refine ⟨_, cnt2, l ++ [⟨name, v.nrm, k', n', f', s', t', a1', ks'.len, c1', a2', fs'.len, c2'⟩], hrg5, by simp; omega, ?_, ?_, ?_, hbel5⟩
        · rw [List.flatMap_append, List.length_append]
          simpa [R8.enc, R8.cells] using hown5
        · rw [List.map_append]
          exact hC.step HLk.out HHat.out
        · intro x hx
          rcases List.mem_append.1 hx with hx | hx
          · refine ⟨(HAll.out x hx).1, ((HAll.out x hx).2.keep (fun g hg => ?_)).more (fun g hg => ?_)⟩
            · have h1 := hg.1.1
              have h2 := hg.1.2
              have := HS4.out
              have := Hs2.out
              exact ((hk5 g (by omega) hg.2).trans (hbel4.block g (by omega))).trans (HK2.out g h2 (by omega))
            · have h2 := hg.1.2
              have := HS4.out
              have := Hs2.out
              exact ⟨⟨hg.1.1, by omega⟩, hloc g (by omega) hg.2⟩
          · simp only [List.mem_singleton] at hx
            subst hx
            refine ⟨hmemn, ?_⟩
            have hnw : ∀ g, New w2 w3 g → (w.heap.size + 1 ≤ g ∧ g < w5.heap.size) ∧ some g ≠ v'.ownBlock := fun g hg => by
              have h1 := hg.1
              have h2 := hg.2
              have h3 := HS4.out
              have h4 := Hs2.out
              have h5 := hbl
              refine ⟨⟨?_, by omega⟩, hloc g (by omega) (fun e => ?_)⟩
              · have := HRg.out.lt
                omega
              · have := (HRowl.out g e.symm).2
                omega
            have hkn : ∀ g, New w2 w3 g → w5.heap[g]? = w3.heap[g]? := fun g hg => by
              have h1 := hg.1
              have h2 := hg.2
              have h3 := HS4.out
              have h4 := Hs2.out
              exact (hk5 g (by omega) (fun e => by have := (HRowl.out g e.symm).2; omega)).trans (HK4.out g h2)
            show RdV _ _ v.nrm (vcells k' n' f' s' t' a1' ks'.len c1' a2' fs'.len c2')
            rw [← HUn.out, RdV]
            exact ⟨a1', c1', a2', c2', xs', ys', rfl, (HZ1.out.keep hkn).more hnw, (HZ2.out.keep hkn).more hnw, z3, (HZ4.out.keep hkn).more hnw, (HZ5.out.keep hkn).more hnw, z6⟩
      case measure => rw [hrg5.left_eq, HRg.out.left_eq]; exact hlt

end Go.Proofs.Ytkcdakohmfodjaa
