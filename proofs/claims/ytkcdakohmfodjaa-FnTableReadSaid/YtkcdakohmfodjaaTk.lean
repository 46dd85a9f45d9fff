/-
  FnTableRead: all values that are told; ParseTable of a table with others behind it; laws.told.
-/
import Derived.Test.YtkcdakohmfodjaaTi
import Derived.Test.YtkcdakohmfodjaaRi
namespace Go.Proofs.Ytkcdakohmfodjaa
open Go.RowKit Go.Maps
attribute [local go_sem ↓] Go.wp_at_zero Go.wp_at_succ

theorem told_all : ∀ n : Nat, TVals n
  | 0 => by
    intro v x p w hht
    obtain ⟨k, m, f, s, t, ks, fs⟩ := v
    rw [V.ht] at hht
    omega
  | n + 1 => by
    have ih := told_all n
    have hT := told_tab n ih
    intro v x p w hht hgood hok hA hp
    obtain ⟨k, m, f, s, t, ks, fs⟩ := v
    rw [V.ht] at hht
    rw [V.ok] at hok
    obtain ⟨o1, o2, o3, o4, o5, o6, o7, o8, o9⟩ := hok
    rw [V.good] at hgood
    obtain ⟨g1, g2⟩ := hgood
    rw [AnyV] at hA
    rcases hA with hs | ⟨rfl, A, c, rfl, hc, hr⟩ | ⟨rfl, A, c, ys, rfl, hc, hr, hv⟩ | ⟨rfl, b, D, rfl, hpb, hm, he⟩
    · have hS : Simple k m f s := by
        rcases g2 with h | ⟨rfl, _⟩ | ⟨rfl, _⟩
        · exact h
        · simp [AnyS] at hs
        · simp [AnyS] at hs
      unfold AnyS at hs
      rcases hs with ⟨rfl, b, rfl, rfl⟩ | ⟨rfl, rfl⟩ | ⟨rfl, rfl⟩ | ⟨rfl, rfl⟩ | ⟨rfl, rfl⟩ | ⟨rfl, rfl⟩ | ⟨rfl, rfl⟩ | ⟨rfl, rfl⟩ | ⟨rfl, rfl⟩ | ⟨rfl, rfl⟩ | ⟨rfl, rfl⟩ | ⟨rfl, rfl⟩
      · cases b
        · exact tl_116_0 f s t ks fs w
        · exact tl_116_1 f s t ks fs w
      · exact tl_98 m f s t ks fs (by simpa [Simple] using hS) w
      · exact tl_66 m f s t ks fs (by simpa [Simple] using hS) w
      · exact tl_115 m f s t ks fs (by simpa [Simple] using hS) w
      · exact tl_73 m f s t ks fs (by simpa [Simple] using hS) w
      · exact tl_108 m f s t ks fs o2 w
      · exact tl_102 m f s t ks fs (by simpa [Simple] using hS) w
      · exact tl_100 m f s t ks fs w
      · exact tl_68 m f s t ks fs (by simpa [Simple] using hS) w
      · exact tl_84 m f s t ks fs (by simpa [Simple] using hS) w
      · exact tl_83 m f s t ks fs w
      · exact tl_86 m f s t ks fs w
    · exact tl_120 m f s t ks fs hr hp
    · have hg : ks.good ∧ ks.enc.length ≤ 20000 := by
        rcases g2 with h | ⟨_, h⟩ | ⟨h, _⟩
        · simp [Simple] at h
        · exact h
        · exact absurd h (by decide)
      have := ks.len_enc
      exact told_65 n ih m f s t ks fs (by omega) hg.1 o6 (by omega) hr hv hp
    · have hg : fs.good none ∧ fs.enc.length ≤ 20000 := by
        rcases g2 with h | ⟨h, _⟩ | ⟨_, h⟩
        · simp [Simple] at h
        · exact absurd h (by decide)
        · exact h
      have := fs.len_enc
      exact told_70 n hT m f s t ks fs (by omega) hg.1 o7 (by omega) ⟨D, hpb, hm, he⟩ hp

/-- impl.fields -/
theorem fields_told {fs : Fs} {b : Nat} {p : Nat → Prop} {w : World} (hg : fs.good none) (hok : fs.ok) (hl : fs.len ≤ 20000) (hTab : TabV w p fs b) (hp : ∀ g, p g → g < w.heap.size) : Calls Try.prog 29 #[.map (some b)] w fun e w' =>
    ∃ A c ys, e = .returned (.tuple #[.slice A fs.len c, .bool true]) ∧ fs.len ≤ c ∧ Rd w' (New w w') A ys ∧ FsC w' (New w w') fs.nrm ys ∧ Below w.heap.size w w' :=
  told_tab fs.ht (told_all fs.ht) fs none b p w (Nat.le_refl _) hg hok hl hTab hp

/-- readTable -/
theorem readTable_ok {fs : Fs} (hT : RTab 0 fs) {w : World} {B : Nat} {r : Value} {ns : List Nat} {ys rest : List UInt8} {S : List Nat} {R : Option Nat} (h : Rdy w B r ns (tab fs ++ ys) rest S R) : Calls Try.prog 41 #[r] w fun e w' =>
    ∃ b, e = .returned (.tuple #[.map (some b), .nilIface]) ∧ TabV w' (New w w') fs b ∧ Rdy w' B r (ns.map (· - (4 + fs.enc.length))) ys rest S R ∧ But w w' S := by
  have H := Lib.hid (hT _ _ _ _ _ _ _ _ h)
  obtain ⟨T0, a0, hr0⟩ := h.shape
  subst hr0
  clear h
  go_enter Try.func41, Try.ntmps41
  go_wp2_with fail
  refine H.out.mono ?_
  rintro e w1 ⟨b, rfl, hTab, hr, hb⟩
  have HTab := Lib.hid hTab
  have HR := Lib.hid hr
  clear hTab hr
  go_wp2_with fail
  go_ret2
  exact ⟨b, rfl, HTab.out, HR.out, hb⟩

set_option maxRecDepth 100000 in
set_option maxHeartbeats 4000000 in
/-- ZZReadTable -/
theorem ZZRead_ok {fs : Fs} (hT : RTab 0 fs) {w : World} {B : Nat} {x : Value} {ys : List UInt8} (hx : Rb w B x (tab fs ++ ys)) (hys : (tab fs ++ ys).length ≤ 1000000000) :
    Calls Try.prog 28 #[x] w fun e w' => ∃ b, e = .returned (.tuple #[.map (some b), .int .i64 ys.length, .nilIface]) ∧ TabV w' (New w w') fs b ∧ Below w.heap.size w w' := by
  obtain ⟨i0, hi, hz0, hz1, hz2⟩ := info_parts info5
  obtain ⟨zs, hzs⟩ : ∃ zs, zs = tab fs ++ ys := ⟨_, rfl⟩
  rw [← hzs] at hx hys
  have HZs := Lib.hid hzs
  have hsrc := hx.src (P := Try.prog) Try.underlying27
  obtain ⟨A, c, hpv, _⟩ := hx
  subst hpv
  have HT := Lib.hid hT
  clear hT hzs
  go_enter Try.func28, Try.ntmps28
  go_wp2_with (at_builtin; refine wpList_append_src _ rfl (.const (.slice none 0 0)) (.tmp 6) 27 27 rfl w.heap.size 5 i0 (.int .u8 0) 1 1 Try.underlying27 hi hz0 hz1 hz2 rfl (.slice none 0 0) 0 [] rfl (World.ownsRow_nil _ _ _ _) _ zs.length (bcells zs) rfl hsrc (by unfold maxLen; omega) (by omega) (Nat.le_refl _) ?_)
  intro sv w1 hown hg hat
  have hown' : Own w1 w.heap.size sv zs := by simpa [Own] using hown
  obtain ⟨A', c', rfl⟩ := own_shape hown'
  have hrow := hown'.row
  have hb1 : Below w.heap.size w w1 := (Below.refl _ _).grown hg (Nat.le_refl _) (fun j hj => by cases hj)
  have hk := Blk.new w1 101 #[.slice A' zs.length c']
  have hRd : Rdy (w1.alloc (.cells #[.slice A' zs.length c'] 101)) (w1.heap.size + 1) (.iface 99 (.pointer (some ⟨w1.heap.size, 0, none⟩))) [] (tab fs ++ ys) [] [w1.heap.size] (Value.ownBlock (.slice A' zs.length c')) := by
    rw [← HZs.out]
    refine ⟨⟨w1.heap.size, _, rfl, hk, ?_, rfl, fun e => by have := (hrow _ e).2; omega, by omega, rfl⟩, (fun _ h => by cases h), by simpa using hys, by rw [avail]; simp, fun x hx => by have := (hrow x hx).2; simp; omega, by simp⟩
    rw [List.append_nil]
    exact (hown'.alloc _).rb.more (by simp)
  have H := Lib.hid (readTable_ok HT.out hRd)
  have Hb1 := Lib.hid hb1
  clear hRd hown hg hat hown' hrow hb1 hsrc hk
  go_wp2_with fail
  refine H.out.mono ?_
  rintro e w2 ⟨b, rfl, hTab, hr, hb2⟩
  obtain ⟨sv, k2, rb2, _⟩ := hr.rr.buf
  rw [List.append_nil] at rb2
  have HL := Lib.hid (len_rb k2 rb2)
  have Hb2 := Lib.hid (Hb1.out.trans (((Below.refl _ _).alloc Hb1.out.size _).trans (hb2.below (B := w.heap.size) (by intro k hk; have := Hb1.out.size; simp at hk; omega) (by have := Hb1.out.size; simp; omega))))
  have HTab := Lib.hid (hTab.keep (w1 := w2) (q := New w w2) (fun _ _ => rfl) (fun g hg => ⟨by have h1 := hg.1; have h2 := Hb1.out.size; simp only [World.size_alloc] at h1; omega, hg.2⟩))
  clear k2 rb2 hb2 hTab hr
  go_wp2_with fail
  refine HL.out.mono ?_
  rintro e w3 ⟨rfl, rfl⟩
  go_wp2_with fail
  go_ret3
  exact ⟨b, rfl, HTab.out, Hb2.out⟩

set_option maxRecDepth 100000 in
set_option maxHeartbeats 4000000 in
/-- ParseTable's inner function -/
theorem parseT1_ok {fs : Fs} (hT : RTab 0 fs) (hg : fs.good none) (hok : fs.ok) (hl : fs.len ≤ 20000) {pd pf po pr B : Nat} {x : Value} {ys : List UInt8} {w : World} (hd : Blk w pd 27 #[x]) (hf : Blk w pf 22 #[.slice none 0 0]) (ho : Blk w po 4 #[.bool false]) (hr : Blk w pr 3 #[.int .i64 0])
    (hx : Rb w B x (tab fs ++ ys)) (hys : (tab fs ++ ys).length ≤ 1000000000) :
    Calls Try.prog 27 #[.pointer (some ⟨pd, 0, none⟩), .pointer (some ⟨pf, 0, none⟩), .pointer (some ⟨po, 0, none⟩), .pointer (some ⟨pr, 0, none⟩)] w fun e w' => e = .returned (.tuple #[]) ∧
      ∃ A c us, Blk w' pf 22 #[.slice A fs.len c] ∧ Blk w' po 4 #[.bool true] ∧ Blk w' pr 3 #[.int .i64 ys.length] ∧ fs.len ≤ c ∧ Rd w' (New w w') A us ∧ FsC w' (New w w') fs.nrm us ∧ But w w' [pf, po, pr] := by
  have hd0 := hd.cell0
  have H := Lib.hid (ZZRead_ok hT hx hys)
  obtain ⟨L, hL⟩ : ∃ L, L = ys.length := ⟨_, rfl⟩
  obtain ⟨L2, hL2⟩ : ∃ L2, L2 = (tab fs ++ ys).length := ⟨_, rfl⟩
  obtain ⟨A, c, rfl, _⟩ := hx
  have HG := Lib.hid hg
  have Hok := Lib.hid hok
  rw [← hL] at H ⊢
  rw [← hL2] at H hd0 hd
  have n1 : pf ≠ po := Blk.ne_ hf ho (by decide)
  have n2 : pf ≠ pr := Blk.ne_ hf hr (by decide)
  have n3 : po ≠ pr := Blk.ne_ ho hr (by decide)
  clear hT hg hok hL hL2
  go_enter Try.func27, Try.ntmps27
  go_wp2_with fail
  refine H.out.mono ?_
  rintro e w1 ⟨b, rfl, hTab, hb⟩
  have HC := Lib.hid (fields_told HG.out Hok.out hl hTab (fun g hg => hg.2))
  clear hTab
  go_wp2_with fail
  refine HC.out.mono ?_
  rintro e w2 ⟨A2, c2, us, rfl, hc2, hR, hF, hb2⟩
  have hB : Below w.heap.size w w2 := hb.trans (hb2.mono hb.size)
  have kf := hf.below hB hf.lt
  have ko := ho.below hB ho.lt
  have kr := hr.below hB hr.lt
  have q0 := kf.cell0
  have q1 := kf.frozen 0
  have q2 := ko.cell0
  have q3 := ko.frozen 0
  have q4 := kr.cell0
  have q5 := kr.frozen 0
  have m1 : po ≠ pf := n1.symm
  have m2 : pr ≠ pf := n2.symm
  have m3 : pr ≠ po := n3.symm
  have i1 : Blk (w2.setCell ⟨pf, 0, none⟩ (.slice A2 fs.len c2)) pf 22 #[.slice A2 fs.len c2] := by simpa using kf.set_ 0 (.slice A2 fs.len c2)
  have i2 : Blk (w2.setCell ⟨pf, 0, none⟩ (.slice A2 fs.len c2)) po 4 #[.bool false] := ko.far m1 _
  have i3 : Blk (w2.setCell ⟨pf, 0, none⟩ (.slice A2 fs.len c2)) pr 3 #[.int .i64 0] := kr.far m2 _
  have j1 := i1.far (p := ⟨po, 0, none⟩) n1 (.bool true)
  have j2 : Blk ((w2.setCell ⟨pf, 0, none⟩ (.slice A2 fs.len c2)).setCell ⟨po, 0, none⟩ (.bool true)) po 4 #[.bool true] := by simpa using i2.set_ 0 (.bool true)
  have j3 := i3.far (p := ⟨po, 0, none⟩) m3 (.bool true)
  have l1 := j1.far (p := ⟨pr, 0, none⟩) n2 (.int .i64 L)
  have l2 := j2.far (p := ⟨pr, 0, none⟩) n3 (.int .i64 L)
  have l3 : Blk (((w2.setCell ⟨pf, 0, none⟩ (.slice A2 fs.len c2)).setCell ⟨po, 0, none⟩ (.bool true)).setCell ⟨pr, 0, none⟩ (.int .i64 L)) pr 3 #[.int .i64 L] := by simpa using j3.set_ 0 (.int .i64 L)
  have hsz : (((w2.setCell ⟨pf, 0, none⟩ (.slice A2 fs.len c2)).setCell ⟨po, 0, none⟩ (.bool true)).setCell ⟨pr, 0, none⟩ (.int .i64 L)).heap.size = w2.heap.size := by simp [World.setCell]
  have hkeep : ∀ g, New w1 w2 g → (((w2.setCell ⟨pf, 0, none⟩ (.slice A2 fs.len c2)).setCell ⟨po, 0, none⟩ (.bool true)).setCell ⟨pr, 0, none⟩ (.int .i64 L)).heap[g]? = w2.heap[g]? := fun g hg => by
    have h1 := hg.1
    have h2 := hb.size
    have := hf.lt
    have := ho.lt
    have := hr.lt
    exact ((Below.heap_setCell _ _ _ _ (by show g ≠ pr; omega)).trans (Below.heap_setCell _ _ _ _ (by show g ≠ po; omega))).trans (Below.heap_setCell _ _ _ _ (by show g ≠ pf; omega))
  have hmo : ∀ g, New w1 w2 g → New w (((w2.setCell ⟨pf, 0, none⟩ (.slice A2 fs.len c2)).setCell ⟨po, 0, none⟩ (.bool true)).setCell ⟨pr, 0, none⟩ (.int .i64 L)) g := fun g hg => ⟨by have := hg.1; have := hb.size; omega, by rw [hsz]; exact hg.2⟩
  have f1 : Rd (((w2.setCell ⟨pf, 0, none⟩ (.slice A2 fs.len c2)).setCell ⟨po, 0, none⟩ (.bool true)).setCell ⟨pr, 0, none⟩ (.int .i64 L)) (New w (((w2.setCell ⟨pf, 0, none⟩ (.slice A2 fs.len c2)).setCell ⟨po, 0, none⟩ (.bool true)).setCell ⟨pr, 0, none⟩ (.int .i64 L))) A2 us := (hR.keep hkeep).more hmo
  have f2 : FsC (((w2.setCell ⟨pf, 0, none⟩ (.slice A2 fs.len c2)).setCell ⟨po, 0, none⟩ (.bool true)).setCell ⟨pr, 0, none⟩ (.int .i64 L)) (New w (((w2.setCell ⟨pf, 0, none⟩ (.slice A2 fs.len c2)).setCell ⟨po, 0, none⟩ (.bool true)).setCell ⟨pr, 0, none⟩ (.int .i64 L))) fs.nrm us := (hF.keep hkeep).more hmo
  have f3 : But w (((w2.setCell ⟨pf, 0, none⟩ (.slice A2 fs.len c2)).setCell ⟨po, 0, none⟩ (.bool true)).setCell ⟨pr, 0, none⟩ (.int .i64 L)) [pf, po, pr] := (((But.ofBelow hB _).setCell (.inl (by simp)) _).setCell (.inl (by simp)) _).setCell (.inl (by simp)) _
  have HPost := Lib.hid (And.intro l1 (And.intro l2 (And.intro l3 (And.intro f1 (And.intro f2 f3)))))
  clear i1 i2 i3 j1 j2 j3 l1 l2 l3 hsz hkeep hmo f1 f2 f3 hR hF hB hb hb2 hd hf ho hr kf ko kr
  go_wp2_with fail
  obtain ⟨l1, l2, l3, f1, f2, f3⟩ := HPost.out
  go_end0
  exact ⟨rfl, A2, c2, us, l1, l2, l3, hc2, f1, f2, f3⟩

end Go.Proofs.Ytkcdakohmfodjaa
