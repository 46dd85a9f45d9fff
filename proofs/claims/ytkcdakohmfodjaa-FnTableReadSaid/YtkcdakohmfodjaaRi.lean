/-
  FnTableRead: arrays and tables that are read; all values.
-/
import Derived.Test.YtkcdakohmfodjaaRh
import Derived.Test.YtkcdakohmfodjaaRf
import Derived.Test.YtkcdakohmfodjaaIe
import Derived.Test.YtkcdakohmfodjaaNr
import Derived.Test.YtkcdakohmfodjaaProp
namespace Go.Proofs.Ytkcdakohmfodjaa
open Go.RowKit Go.Maps
attribute [local go_sem ↓] Go.wp_at_zero Go.wp_at_succ

theorem V.fit_less {v : V} {d : Nat} {ρ ρ' : Int} (h : v.fit d ρ = some ρ') : 0 ≤ ρ' ∧ ρ' + 1 ≤ ρ := by
  have h0 := (V.fit_dec v d ρ ρ' h).1
  obtain ⟨k, n, f, s, t, ks, fs⟩ := v
  obtain ⟨h1, h2⟩ := V.fit_inv h
  refine ⟨h0, ?_⟩
  rcases h2 with ⟨h2, _⟩ | ⟨_, h2⟩ | ⟨_, h2⟩
  · omega
  · have := (Vs.fit_dec ks _ _ _ h1 h2).2
    omega
  · have := (Fs.fit_dec fs _ _ _ _ h1 h2).2
    omega
theorem Vs.fit_len : ∀ (ks : Vs) (d : Nat) (ρ ρ' : Int), ks.fit d ρ = some ρ' → (ks.len : Int) ≤ ρ - ρ' ∧ (0 ≤ ρ → 0 ≤ ρ')
  | .nil, d, ρ, ρ', h => by
    simp only [Vs.fit, Option.some.injEq] at h
    subst h
    exact ⟨by simp [Vs.len], fun h => h⟩
  | .cons v q, d, ρ, ρ', h => by
    have hQ := Vs.fit_len q
    rw [Vs.fit] at h
    cases hvf : v.fit d ρ with
    | none => rw [hvf] at h; cases h
    | some ρ1 =>
      rw [hvf] at h
      simp only at h
      have h4 := V.fit_less hvf
      obtain ⟨a, b⟩ := hQ d ρ1 ρ' h
      exact ⟨by rw [Vs.len]; omega, fun _ => b h4.1⟩

/-- what does not change where its blocks and its row lie -/
theorem Rr.rebase : ∀ {ns : List Nat} {w : World} {B B' : Nat} {r : Value} {ys : List UInt8} {S : List Nat} {R : Option Nat}, Rr w B r ns ys S R → (∀ x ∈ S, x < B') → (ys ≠ [] → ∀ x, R = some x → x < B') → Rr w B' r ns ys S R
  | [], w, B, B', r, ys, S, R, h, hS, hR => by
    obtain ⟨bb, sv, rfl, hk, hrb, hown, hne, hb, rfl⟩ := h
    refine ⟨bb, sv, rfl, hk, ?_, hown, hne, hS bb (by simp), rfl⟩
    obtain ⟨A, c, e, hc, hx⟩ := hrb
    refine ⟨A, c, e, hc, fun hn => ?_⟩
    obtain ⟨ad, ea, hb2, hx2⟩ := hx hn
    refine ⟨ad, ea, hR (by rintro rfl; simp at hn) _ (by rw [← hown, e, ea]; rfl), hx2⟩
  | n :: ns, w, B, B', r, ys, S, R, h, hS, hR => by
    obtain ⟨lb, r', S', rfl, hk, hr, h1, h2, hb, rfl⟩ := h
    exact ⟨lb, r', S', rfl, hk, Rr.rebase hr (fun x hx => hS x (List.mem_cons_of_mem _ hx)) hR, h1, h2, hS lb List.mem_cons_self, rfl⟩

/-- the blocks of a reader say which reader it is -/
theorem Rr.same : ∀ {ns ns' : List Nat} {w w' : World} {B B' : Nat} {r r' : Value} {ys ys' : List UInt8} {S : List Nat} {R R' : Option Nat}, Rr w B r ns ys S R → Rr w' B' r' ns' ys' S R' → ns.length = ns'.length → r = r'
  | [], [], w, w', B, B', r, r', ys, ys', S, R, R', h, h', _ => by
    obtain ⟨bb, sv, rfl, _, _, _, _, _, rfl⟩ := h
    obtain ⟨bb', sv', rfl, _, _, _, _, _, e⟩ := h'
    injection e with e
    rw [e]
  | [], _ :: _, _, _, _, _, _, _, _, _, _, _, _, _, _, e => by simp at e
  | _ :: _, [], _, _, _, _, _, _, _, _, _, _, _, _, _, e => by simp at e
  | n :: ns, n' :: ns', w, w', B, B', r, r', ys, ys', S, R, R', h, h', _ => by
    obtain ⟨lb, r1, S1, rfl, _, _, _, _, _, rfl⟩ := h
    obtain ⟨lb', r1', S1', rfl, _, _, _, _, _, e⟩ := h'
    injection e with e
    rw [e]

set_option maxRecDepth 100000 in
set_option maxHeartbeats 1000000 in
/-- (*Buffer).WriteString -/
theorem writeString_any {B bb : Nat} {sv : Value} {xs : List UInt8} {s : ByteArray} {w : World} (hb : Buf w B 101 bb sv xs) (hB : B ≤ w.heap.size) (hs : s.size ≤ 1000000) (hx : xs.length ≤ 1000000) :
    Calls Try.prog 72 #[.pointer (some ⟨bb, 0, none⟩), .string s] w fun e w' => e = .returned (.tuple #[.int .i64 s.size, .nilIface]) ∧
      ∃ sv', Buf w' B 101 bb sv' (xs ++ s.data.toList) ∧ Wr w w' bb sv.ownBlock sv'.ownBlock := by
  obtain ⟨i0, hi, hz0, hz1, hz2⟩ := info_parts info5
  have hc := hb.cell
  have hf := hb.frozen
  have e0 : s.data.toList.length = s.size := by rw [Array.length_toList]; rfl
  have HE := Lib.hid e0
  clear e0
  go_enter Try.func72, Try.ntmps72
  go_wp2_with (at_builtin; refine wpList_append_src _ rfl (.tmp 10) (.tmp 11) 27 9 rfl B 5 i0 (.int .u8 0) 1 1 Try.underlying27 hi hz0 hz1 hz2 rfl sv xs.length (bcells xs) rfl hb.own _ s.size (byteCells s) rfl (Src.ofString _ Try.underlying9 s) (by unfold maxLen; omega) (by omega) hB ?_)
  intro sv' w1 hown hg hat
  rw [← HE.out] at hown
  have hfin := hb.appended (ys := s.data.toList) hown hg hat
  have hc1 := (hb.blk_grown hg).cell0
  have hf1 := (hb.blk_grown hg).frozen 0
  have HF := Lib.hid hfin
  clear hfin
  obtain ⟨A', c', rfl⟩ := own_shape hown
  clear hown
  go_wp2_with fail
  go_ret2
  exact ⟨rfl, _, HF.out⟩

theorem map_sub_zero (ns : List Nat) : ns.map (· - 0) = ns := by simp
theorem data_toArray (l : List UInt8) : (⟨l.toArray⟩ : ByteArray).data.toList = l := rfl
theorem size_toArray (l : List UInt8) : (⟨l.toArray⟩ : ByteArray).size = l.length := by show l.toArray.size = _; simp

def RVals (n : Nat) : Prop := ∀ (v : V) (d : Nat) (ρ ρ' : Int) (dd : Nat), v.ht ≤ n → v.fit d ρ = some ρ' → ρ ≤ 2000 → v.ok → dd + d ≤ 32 → RLet dd v
def RArrs (n : Nat) : Prop := ∀ (ks : Vs) (d : Nat) (ρ ρ' : Int) (dd : Nat), ks.ht ≤ n → ks.fit d ρ = some ρ' → ρ ≤ 2000 → 0 ≤ ρ → ks.ok → dd + d ≤ 32 → RArr dd ks
def RTabs (n : Nat) : Prop := ∀ (fs : Fs) (d : Nat) (prev : Option ByteArray) (ρ ρ' : Int) (dd : Nat), fs.ht ≤ n → fs.fit d prev ρ = some ρ' → ρ ≤ 2000 → 0 ≤ ρ → fs.ok → dd + d ≤ 32 → RTab dd fs

set_option maxRecDepth 100000 in
set_option maxHeartbeats 8000000 in
theorem read_arr (n : Nat) (hV : RVals n) : RArrs n := by
  intro ks d ρ ρ' dd hht hfit hρ hρ0 hok hdd w B r ns ys rest S R h
  obtain ⟨T0, a0, hr0⟩ := h.shape
  subst hr0
  obtain ⟨hg, henc, hpos⟩ := Vs.fit_good ks d ρ ρ' hρ hfit
  have hlen := (Vs.fit_len ks d ρ ρ' hfit).1
  have hL : ks.enc.length ≤ 20000 := by have := hpos hρ0; omega
  have hK : ks.len ≤ 2000 := by have := hpos hρ0; omega
  obtain ⟨i0, hi, hz0, hz1, hz2⟩ := info_parts info20
  have HA := Lib.hid h
  rw [List.append_assoc] at h
  have H1 := Lib.hid (val_183 h (be_len _ _))
  rw [rd_len _ (by omega)] at H1
  have hd32 : ¬ (32 < (dd : Int)) := by omega
  have HV := Lib.hid hV
  have HOk := Lib.hid hok
  have HFit := Lib.hid hfit
  clear h hV hg henc hpos hlen hok hfit
  obtain ⟨L, hLL⟩ : ∃ L, L = ks.enc.length := ⟨_, rfl⟩
  rw [← hLL] at H1 hL ⊢
  have HL := Lib.hid hLL
  clear hLL
  go_enter Try.func91, Try.ntmps91
  go_wp2_with fail
  refine H1.out.mono ?_
  rintro e w1 ⟨rfl, k1, r1, b1⟩
  have c1 := k1.cell0
  have z1 := k1.frozen 0
  have hle : ¬ (2147483647 < (L : Int)) := by omega
  have hw : IntKind.i64.wrap (L : Int) = (L : Int) := IntWalk.i64_in _ (by omega)
  have HR1 := Lib.hid r1
  have HB1 := Lib.hid b1
  have HK1 := Lib.hid k1
  clear k1 r1 b1
  go_wp2_with fail
  have hlb := Blk.new w1 222 #[.iface T0 (.pointer (some a0)), .int .i64 L]
  have r2 := HR1.out.alloc (.cells #[.iface T0 (.pointer (some a0)), .int .i64 L] 222)
  have hs2 : (w1.alloc (.cells #[.iface T0 (.pointer (some a0)), .int .i64 L] 222)).heap.size = w1.heap.size + 1 := by simp
  have hb2 : But w1 (w1.alloc (.cells #[.iface T0 (.pointer (some a0)), .int .i64 L] 222)) [] := (But.refl _ _).alloc _
  have hlS : w1.heap.size ∉ S := HR1.out.notS
  have hlR : R ≠ some w1.heap.size := HR1.out.notR
  have hyl : ks.enc.length = L := HL.out.symm
  have hrd : Rdy (w1.alloc (.cells #[.iface T0 (.pointer (some a0)), .int .i64 L] 222)) (w1.heap.size + 1) (.iface 220 (.pointer (some ⟨w1.heap.size, 0, none⟩))) (L :: ns.map (· - 4)) (ks.enc ++ []) (ys ++ rest) (w1.heap.size :: S) R := by
    have hx := r2.rr
    rw [List.append_assoc] at hx
    refine ⟨⟨w1.heap.size, _, S, rfl, hlb, ?_, hlS, hlR, by omega, rfl⟩, ?_, ?_, ?_, ?_, ?_⟩
    · rw [List.append_nil]
      exact hx.rebase (fun x hx => by have := HR1.out.rr.lt x hx; have := HR1.out.base; omega) (fun _ x hx => by have := HR1.out.row x hx; omega)
    · intro x hx
      rcases List.mem_cons.1 hx with rfl | hx
      · omega
      · exact r2.small x hx
    · have := r2.len
      simp only [List.length_append, List.length_nil] at this ⊢
      omega
    · have := r2.av
      rw [List.append_nil, avail]
      rw [List.append_assoc] at this
      rw [List.length_append] at this
      omega
    · intro x hx
      have := r2.row x hx
      exact this
    · rw [hs2]; omega
  have HRd := Lib.hid hrd
  have HB2 := Lib.hid hb2
  have HS2 := Lib.hid hs2
  have HLb := Lib.hid hlb
  clear hlb r2 hs2 hb2 hrd
  obtain ⟨lb, hlbe⟩ : ∃ lb, lb = w1.heap.size := ⟨_, rfl⟩
  rw [← hlbe] at HRd HS2 hlS hlR ⊢
  have HLbe := Lib.hid hlbe
  generalize w1.alloc (.cells #[.iface T0 (.pointer (some a0)), .int .i64 L] 222) = w2 at HRd HB2 HS2 HLb ⊢
  rw [← hlbe] at HLb
  have hwl : w.heap.size ≤ lb := by have := HB1.out.size; omega
  clear hlbe c1 z1
  have hlS' : ∀ x ∈ S, x < lb + 1 := fun x hx => by have := HA.out.rr.lt x hx; have := HA.out.base; omega
  have hlR' : ∀ x, R = some x → x < lb + 1 := fun x hx => by have := HA.out.row x hx; omega
  have HLS' := Lib.hid hlS'
  have HLR' := Lib.hid hlR'
  have HLR := Lib.hid hlR
  have HLS := Lib.hid hlS
  clear hlS' hlR' hlS hlR
  go_loopw [4] (fun v wr => ∃ (k j : Nat) (q dn : Vs) (xs : List Value) (ρ1 : Int), dn.len = k ∧ ks = dn.app q ∧ q.ok ∧ q.ht ≤ n ∧ q.fit d ρ1 = some ρ' ∧ ρ1 ≤ 2000 ∧ j + q.enc.length = L ∧
      wr.ownsRow (lb + 1) 20 1 v k xs ∧ AnyVs wr (fun g => (lb + 1 ≤ g ∧ g < wr.heap.size) ∧ some g ≠ v.ownBlock) dn xs ∧
      Rdy wr (lb + 1) (.iface 220 (.pointer (some ⟨lb, 0, none⟩))) ((L :: ns.map (· - 4)).map (· - j)) (q.enc ++ []) (ys ++ rest) (lb :: S) R ∧ But w2 wr (lb :: S))
    (fun v _ => match v with | .slice _ k _ => ks.len - k | _ => 0)
  case atStart => exact ⟨0, 0, ks, .nil, [], ρ, rfl, rfl, HOk.out, hht, HFit.out, hρ, by omega, World.ownsRow_nil _ _ _ _, by rw [AnyVs], by have := HRd.out; rwa [← map_sub_zero (L :: ns.map (· - 4))] at this, But.refl _ _⟩
  case round =>
    obtain ⟨k, j, q, dn, xs, ρ1, hdk, hks, hqo, hqh, hqf, hρ1, hjL, hrow, hAs, hrd, hbut⟩ := hrel
    have Hks := Lib.hid hks
    have HDk := Lib.hid hdk
    clear hks hdk
    obtain ⟨A, c, rfl⟩ := own_shape hrow
    have HRow := Lib.hid hrow
    have HAs := Lib.hid hAs
    have HRdr := Lib.hid hrd
    have HBut := Lib.hid hbut
    have hszr : lb + 1 ≤ wr.heap.size := by have := hbut.size; have := HS2.out; omega
    clear hrow hAs hrd hbut
    cases q with
    | nil =>
      have hj : j = L := by simpa [Vs.enc] using hjL
      subst hj
      have hdn : ks = dn := by rw [Hks.out, Vs.app_nil]
      have HDn := Lib.hid hdn
      have hav : avail ((j :: ns.map (· - 4)).map (· - j)) (ys ++ rest) = 0 := by rw [List.map_cons, avail, Nat.sub_self, Nat.zero_min]
      have hrr := HRdr.out.rr
      rw [Vs.enc, List.append_nil, List.nil_append] at hrr
      have HE := Lib.hid (field_eof dd hrr HRdr.out.small (by have := HRdr.out.len; simp only [List.length_append] at this ⊢; omega) hav HRdr.out.row HRdr.out.base)
      have heq := fun w => eof_eof w
      have hen := fun w => eof_nil ⟨#[69, 79, 70]⟩ w
      have Hyl := Lib.hid hyl
      clear hdn hav hrr hjL hyl
      go_wp2_with fail
      refine HE.out.mono ?_
      rintro e w3 ⟨rfl, hr3, hb3⟩
      have HR3 := Lib.hid hr3
      have HB3 := Lib.hid hb3
      clear hr3 hb3
      go_wp2_with fail
      go_ret2
      have hK2 : k = ks.len := by rw [HDn.out, HDk.out]
      have hsz3 := HB3.out.size
      have hno : ∀ g, lb + 1 ≤ g → g ∉ lb :: S := fun g hg hm => by
        rcases List.mem_cons.1 hm with rfl | hm
        · omega
        · have := HLS'.out g hm
          omega
      refine ⟨A, c, xs, by rw [hK2]; rfl, ?_, ?_, ?_, ?_, ?_⟩
      · have := (Rd.of_own (p := fun _ => True) HRow.out (fun g _ h1 h2 => trivial)).2
        rw [← hK2]; exact this
      · refine ((Rd.of_own (p := fun g => lb + 1 ≤ g ∧ g < wr.heap.size) HRow.out (fun g _ h1 h2 => ⟨h1, h2⟩)).1.keep (fun g hg => HB3.out.block g hg.2 (hno g hg.1))).more (fun g hg => ⟨?_, ?_⟩)
        · have := hg.1; omega
        · have := hg.2; omega
      · rw [HDn.out]
        refine HAs.out.keep (fun g hg => HB3.out.block g hg.1.2 (hno g hg.1.1)) (fun g hg => ⟨?_, ?_⟩)
        · have := hg.1.1; omega
        · have := hg.1.2; omega
      · obtain ⟨lb', r', S', e1, _, hr', _, _, _, e2⟩ := HR3.out
        injection e2 with e2 e3
        subst e3
        have hB : w1.heap.size ≤ w3.heap.size := by have := HLbe.out; omega
        have hre := Rr.same HR1.out.rr hr' (by simp)
        rw [← hre] at hr'
        have hfin := HR1.out.next (w1 := w3) (by
          rw [Hyl.out]
          refine hr'.rebase (fun x hx => HA.out.rr.lt x hx) (fun hn x hx => ?_)
          obtain ⟨g, hg1, hg2, _⟩ := HA.out.rr.row_lt (by simp; intro h; have := congrArg List.length h; simp [be_len] at this)
          rw [hx] at hg1
          injection hg1 with hg1
          omega) hB
        rw [Hyl.out, map_sub_sub] at hfin
        exact hfin
      · exact ((HB1.out.trans (HB2.out.more (by simp)))).weaken (HBut.out.trans HB3.out) (fun x hx => by
          rcases List.mem_cons.1 hx with e | e
          · exact .inr (by omega)
          · exact .inl e)
    | cons v q =>
      rw [Vs.ok] at hqo
      obtain ⟨o2, o3⟩ := hqo
      rw [Vs.ht] at hqh
      have hht2 : v.ht ≤ n ∧ q.ht ≤ n := by omega
      have hf2 : ∃ ρ2, v.fit d ρ1 = some ρ2 ∧ q.fit d ρ2 = some ρ' := by
        rw [Vs.fit] at hqf
        cases hvf : v.fit d ρ1 with
        | none => rw [hvf] at hqf; cases hqf
        | some ρ2 => rw [hvf] at hqf; exact ⟨ρ2, rfl, hqf⟩
      obtain ⟨ρ2, f1, f2⟩ := hf2
      have hless := V.fit_less f1
      have henc : (Vs.cons v q).enc = v.enc ++ q.enc := rfl
      have hel : (Vs.cons v q).enc.length = v.enc.length + q.enc.length := by rw [henc, List.length_append]
      rw [hel] at hjL
      have hkl : k + (q.len + 1) = ks.len := by rw [Hks.out, Vs.len_app, HDk.out, Vs.len]
      have hrv := HRdr.out
      rw [henc, List.append_assoc] at hrv
      have HC := Lib.hid (HV.out v d ρ1 ρ2 dd hht2.1 f1 hρ1 o2 hdd _ _ _ _ _ _ _ _ hrv)
      have HF2 := Lib.hid f2
      clear hqf f1 f2 henc hel hrv hqh HRdr
      go_wp2_with fail
      refine HC.out.mono ?_
      rintro e w3 ⟨x, rfl, hxv, r3, b3⟩
      have HXV := Lib.hid hxv
      have HR3 := Lib.hid r3
      have HB3 := Lib.hid b3
      have hsz3 := b3.size
      have hno : ∀ g, lb + 1 ≤ g → g ∉ lb :: S := fun g hg hm => by
        rcases List.mem_cons.1 hm with rfl | hm
        · omega
        · have := HLS'.out g hm
          omega
      have HNo := Lib.hid hno
      have hone := hxv.one
      have hrow3 := (own_keep2 HRow.out (fun g hg => b3.block g (HRow.out.lt g hg).2 (hno g (HRow.out.lt g hg).1))).alloc (.cells #[x] 20)
      have hsrc : Src Try.prog 1 127 (.slice (some ⟨w3.heap.size, 0, none⟩) 1 1) 1 [x] (w3.alloc (.cells #[x] 20)) :=
        Src.ofSlice _ Try.underlying127 ⟨w3.heap.size, 0, none⟩ 1 1 _ rfl (by have := World.news_of_block (Blk.new w3 20 #[x]); simpa using this) (by intro u hu; simp at hu; subst hu; exact hone)
      have HRow3 := Lib.hid hrow3
      have HSrc := Lib.hid hsrc
      have hk8 : ¬ (8192 ≤ (k : Int)) := by omega
      have hk9 : (k : Int) < 8192 := by omega
      clear hxv r3 b3 hno hone hrow3 hsrc
      have hshape := HXV.out.shape
      rcases hshape with ⟨T1, u1, rfl⟩ | rfl
      all_goals
        go_wp2_with (at_builtin; refine wpList_append_src _ rfl (.tmp 46) (.tmp 48) 127 127 rfl (lb + 1) 20 i0 .nilIface 1 16 Try.underlying127 hi hz0 hz1 hz2 rfl _ k xs rfl HRow3.out _ 1 _ rfl HSrc.out (by unfold maxLen; omega) (by omega) (by simp; omega) ?_)
        intro v' w4 hown4 hg4 hat4
        have hs4 := hg4.size
        have hs4' : w3.heap.size + 1 ≤ w4.heap.size := by simpa using hs4
        have hrl := HRow.out.lt
        have hloc : ∀ g, g < w3.heap.size → some g ≠ (Value.slice A k c).ownBlock → some g ≠ v'.ownBlock := fun g hg hne e => by
          rcases hat4 with h | h
          · rw [h] at e; exact hne e
          · rw [h] at e; injection e with e; omega
        have hkeepA : ∀ g, g < w3.heap.size → some g ≠ (Value.slice A k c).ownBlock → w4.heap[g]? = w3.heap[g]? := fun g hg hne =>
          (hg4.block g (by simp; omega) hne).trans (Below.heap_alloc _ _ _ hg)
        have hA4 : AnyVs w4 (fun g => (lb + 1 ≤ g ∧ g < w4.heap.size) ∧ some g ≠ v'.ownBlock) dn xs := HAs.out.keep
          (fun g hg => (hkeepA g (by have := hg.1.2; omega) hg.2).trans (HB3.out.block g hg.1.2 (HNo.out g hg.1.1)))
          (fun g hg => ⟨⟨hg.1.1, by have := hg.1.2; omega⟩, hloc g (by have := hg.1.2; omega) hg.2⟩)
        have hne2 : ∀ g, wr.heap.size ≤ g → some g ≠ (Value.slice A k c).ownBlock := fun g hg e => by
          have := (hrl g e.symm).2
          omega
        have hxv4 : AnyV w4 (fun g => (lb + 1 ≤ g ∧ g < w4.heap.size) ∧ some g ≠ v'.ownBlock) v _ := HXV.out.keep
          (fun g hg => hkeepA g hg.2 (hne2 g hg.1))
          (fun g hg => ⟨⟨by have := hg.1; omega, by have := hg.2; omega⟩, hloc g hg.2 (hne2 g hg.1)⟩)
        have hlo : ∀ g, g ≤ lb → some g ≠ (Value.slice A k c).ownBlock := fun g hg e => by
          have := (hrl g e.symm).1
          omega
        have hrd4 : Rdy w4 (lb + 1) (.iface 220 (.pointer (some ⟨lb, 0, none⟩))) ((L :: ns.map (· - 4)).map (· - (j + v.enc.length))) (q.enc ++ []) (ys ++ rest) (lb :: S) R := by
          have := HR3.out.keep (w1 := w4) (fun x hx => by
            have hx' : x ≤ lb := by
              rcases List.mem_cons.1 hx with rfl | hx
              · exact Nat.le_refl _
              · have := HLS'.out x hx; omega
            exact hkeepA x (by omega) (hlo x hx')) (fun x hx => by
            have := HLR'.out x hx
            exact hkeepA x (by omega) (hlo x (by omega))) (by omega)
          rw [map_sub_sub] at this
          exact this
        have hbut4 : But w2 w4 (lb :: S) := ((HBut.out.trans HB3.out).alloc _).grown hg4 (fun g hg => .inr (by have := (hrl g hg).1; have := HS2.out; omega))
        have HA4 := Lib.hid (hA4.snoc hxv4)
        have HOwn := Lib.hid hown4
        have HRd4 := Lib.hid hrd4
        have HBut4 := Lib.hid hbut4
        clear hA4 hxv4 hloc hkeepA hne2 hs4 hown4 hrl hlo hrd4 hbut4
        obtain ⟨A', c', rfl⟩ := own_shape HOwn.out
        go_wp2
        refine ⟨⟨k + 1, j + v.enc.length, q, dn.app (.cons v .nil), _, ρ2, by rw [Vs.len_app, HDk.out]; rfl, ?_, o3, hht2.2, HF2.out, by omega, by omega, HOwn.out, HA4.out, HRd4.out, HBut4.out⟩, ?_⟩
        · rw [Vs.app_assoc]
          exact Hks.out
        · show ks.len - (k + 1) < ks.len - k
          omega


/-! ### tables -/
theorem Fs.fit_len : ∀ (fs : Fs) (d : Nat) (prev : Option ByteArray) (ρ ρ' : Int), fs.fit d prev ρ = some ρ' → (fs.len : Int) ≤ ρ - ρ'
  | .nil, d, prev, ρ, ρ', h => by
    simp only [Fs.fit, Option.some.injEq] at h
    subst h
    simp [Fs.len]
  | .cons name v q, d, prev, ρ, ρ', h => by
    have hQ := Fs.fit_len q
    rw [Fs.fit] at h
    by_cases hcond : name.size > 255 ∨ ρ - (1 + (name.size : Int)) < 0 ∨ prevOk prev name = false
    · rw [if_pos hcond] at h; cases h
    rw [if_neg hcond] at h
    cases hvf : v.fit d (ρ - (1 + name.size)) with
    | none => rw [hvf] at h; cases h
    | some ρ1 =>
      rw [hvf] at h
      simp only at h
      have h4 := V.fit_less hvf
      have := hQ d (some name) ρ1 ρ' h
      rw [Fs.len]; omega

/-- how much a buffer holds -/
def bufLen (w : World) (nb : Nat) : Nat := match w.cell? ⟨nb, 0, none⟩ with
  | some (.slice _ l _) => l
  | _ => 0
theorem Rr.buf {w : World} {B nb : Nat} {ys : List UInt8} {S : List Nat} {R : Option Nat} (h : Rr w B (.iface 99 (.pointer (some ⟨nb, 0, none⟩))) [] ys S R) : ∃ sv, Blk w nb 101 #[sv] ∧ Rb w B sv ys ∧ bufLen w nb = ys.length := by
  obtain ⟨bb, sv, e, hk, hrb, _⟩ := h
  injection e with _ e
  injection e with e
  injection e with e
  injection e with e
  subst e
  refine ⟨sv, hk, hrb, ?_⟩
  unfold bufLen
  rw [hk.cell0]
  obtain ⟨A, c, rfl, _⟩ := hrb
  rfl

set_option maxRecDepth 100000 in
set_option maxHeartbeats 8000000 in
theorem read_tab (n : Nat) (hV : RVals n) : RTabs n := by
  intro fs d prev ρ ρ' dd hht hfit hρ hρ0 hok hdd w B r ns ys rest S R h
  obtain ⟨T0, a0, hr0⟩ := h.shape
  subst hr0
  obtain ⟨hg, henc, hpos⟩ := Fs.fit_good fs d prev ρ ρ' hρ hfit
  have hlen := Fs.fit_len fs d prev ρ ρ' hfit
  have hL : fs.enc.length ≤ 20000 := by have := hpos hρ0; omega
  have hK : fs.len ≤ 2000 := by have := hpos hρ0; omega
  have hns := (names_grow fs prev hg).1
  have htab : tab fs = be (⟨fs.enc.toArray⟩ : ByteArray).size 4 ++ (⟨fs.enc.toArray⟩ : ByteArray).data.toList := by rw [size_toArray, data_toArray]; rfl
  have HA := Lib.hid h
  have ha := h.alloc (.cells #[.slice none 0 0] 101)
  rw [htab] at ha
  have H1 := Lib.hid (long_ok ha (by rw [size_toArray]; omega))
  rw [size_toArray] at H1
  have hbi := Buf.new w 101 (by decide) (Nat.le_refl w.heap.size)
  have HBi := Lib.hid hbi
  have hd32 : ¬ (32 < (dd : Int)) := by omega
  have HV := Lib.hid hV
  have HOk := Lib.hid hok
  have HFit := Lib.hid hfit
  have HNS := Lib.hid hns
  have hmm := @run_makeMap Try.prog
  have hnS : w.heap.size ∉ S := h.notS
  have HnS := Lib.hid hnS
  have hpl : (w.alloc (.cells #[.slice none 0 0] 101)).heap.size = w.heap.size + 1 := by simp
  have HPl := Lib.hid hpl
  have HB0 := Lib.hid ((But.refl w S).alloc (.cells #[.slice none 0 0] 101))
  clear h hV hg henc hpos hlen hok hfit ha htab hbi hns hnS hpl
  go_enter Try.func57, Try.ntmps57
  go_wp2_with fail
  refine H1.out.mono ?_
  rintro e w1 ⟨rfl, r1, b1⟩
  have hb1 := HBi.out.but b1 HnS.out (fun g hg => by simp [Value.ownBlock] at hg)
  have hsz1 : w.heap.size < w1.heap.size := by have := b1.size; have := HPl.out; omega
  have H2 := Lib.hid (writeString_any (s := ⟨fs.enc.toArray⟩) hb1 (by omega) (by rw [size_toArray]; omega) (by simp))
  have HR1 := Lib.hid r1
  have HB1 := Lib.hid (HB0.out.trans b1)
  clear r1 b1 hb1
  go_wp2_with fail
  refine H2.out.mono ?_
  rintro e w2 ⟨rfl, sv, hb2, hw2⟩
  rw [List.nil_append] at hb2
  have HBf := Lib.hid hb2
  have HW2 := Lib.hid hw2
  have hsz2 := hw2.size
  clear hb2 hw2
  go_wp2_with fail
  have hm0 : MapOf (w2.alloc (.map #[] 0)) w2.heap.size 0 [] (.map []) := ⟨World.ownsMap_made _ _ _ _, fun x => by simp [Maps.has]⟩
  have hb3 := HBf.out.alloc (.map #[] 0)
  have hs3 : (w2.alloc (.map #[] 0)).heap.size = w2.heap.size + 1 := by simp
  have hbel3 : Below w2.heap.size w2 (w2.alloc (.map #[] 0)) := (Below.refl _ _).alloc (Nat.le_refl _) _
  have hrow : ∀ g, sv.ownBlock = some g → w.heap.size ≤ g ∧ g < w2.heap.size := fun g hg => HBf.out.row_lt g hg
  have hRn : sv.ownBlock ≠ some w.heap.size := fun e => HBf.out.row_ne HBf.out.blk (by decide) e.symm
  have hrd : Rdy (w2.alloc (.map #[] 0)) w2.heap.size (.iface 99 (.pointer (some ⟨w.heap.size, 0, none⟩))) [] (fs.enc ++ []) [] [w.heap.size] sv.ownBlock := by
    refine ⟨⟨w.heap.size, sv, rfl, hb3.blk, ?_, rfl, hRn, by omega, rfl⟩, fun x hx => (by cases hx), ?_, ?_, ?_, by omega⟩
    · rw [List.append_nil, List.append_nil]
      exact (HBf.out.rb).alloc (Nat.le_refl _) _
    · simp; omega
    · rw [avail]; simp
    · intro x hx
      have := (hrow x hx).2
      omega
  have HRd := Lib.hid hrd
  have HM0 := Lib.hid hm0
  have HS3 := Lib.hid hs3
  have HBel3 := Lib.hid hbel3
  have HRow := Lib.hid hrow
  clear hmm hm0 hb3 hs3 hbel3 hrow hrd hRn
  obtain ⟨mb, hmb⟩ : ∃ mb, mb = w2.heap.size := ⟨_, rfl⟩
  rw [← hmb] at HRd HM0 HS3 HBel3 HRow ⊢
  have HMb := Lib.hid hmb
  generalize w2.alloc (.map #[] 0) = w3 at HRd HM0 HS3 HBel3 ⊢
  have hnm : w.heap.size < mb := by omega
  clear hmb
  go_loopw [4, 5] (fun tv er wr => ∃ (k : Nat) (q dn : Fs) (prev' : Option ByteArray) (ρ1 : Int) (D : DataW Value), tv = .map (some mb) ∧ er = .nilIface ∧ dn.len = k ∧ fs = dn.app q ∧ q.ok ∧ q.ht ≤ n ∧ q.fit d prev' ρ1 = some ρ' ∧ ρ1 ≤ 2000 ∧
      MapOf wr mb k dn.names D ∧ EntV wr (fun g => mb < g ∧ g < wr.heap.size) dn D ∧
      Rdy wr mb (.iface 99 (.pointer (some ⟨w.heap.size, 0, none⟩))) [] (q.enc ++ []) [] [w.heap.size] sv.ownBlock ∧ But w3 wr [w.heap.size, mb])
    (fun _ _ wr => bufLen wr w.heap.size)
  case atStart => exact ⟨0, fs, .nil, prev, ρ, .map [], rfl, rfl, rfl, rfl, HOk.out, hht, HFit.out, hρ, HM0.out, by rw [EntV]; trivial, HRd.out, But.refl _ _⟩
  case round =>
    obtain ⟨k, q, dn, prev', ρ1, D, rfl, rfl, hdk, hks, hqo, hqh, hqf, hρ1, hM, hE, hrd, hbut⟩ := hrel
    obtain ⟨sv', hk', hrb', hbl⟩ := hrd.rr.buf
    have HLn := Lib.hid (len_rb hk' hrb')
    have Hks := Lib.hid hks
    have HDk := Lib.hid hdk
    have HM := Lib.hid hM
    have HE := Lib.hid hE
    have HRdr := Lib.hid hrd
    have HBut := Lib.hid hbut
    have HBl := Lib.hid hbl
    have hszr : mb + 1 ≤ wr.heap.size := by have := hbut.size; have := HS3.out; omega
    clear hks hdk hM hE hrd hbut hk' hrb' hbl
    cases q with
    | nil =>
      have hdn : fs = dn := by rw [Hks.out, Fs.app_nil]
      have HDn := Lib.hid hdn
      have hz : ((Fs.nil.enc ++ [] ++ [] : List UInt8)).length = 0 := rfl
      rw [hz] at HLn
      clear hdn hz
      go_wp2_with fail
      refine HLn.out.mono ?_
      rintro e w4 ⟨rfl, rfl⟩
      go_wp2_with fail
      go_ret2
      have hB3 : But w3 wr [w.heap.size, mb] := HBut.out
      have hB2 : But w wr S := by
        have h12 : But w1 w2 [w.heap.size] := ⟨HW2.out.os, HW2.out.tape, HW2.out.output, HW2.out.size, fun g hg hn => HW2.out.block g hg (by simpa using hn) (by simp [Value.ownBlock])⟩
        have h13 : But w1 w3 [w.heap.size] := h12.trans ⟨HBel3.out.os, HBel3.out.tape, HBel3.out.output, by have := HS3.out; have := HMb.out; omega, fun g hg _ => HBel3.out.block g (by have := HMb.out; omega)⟩
        refine (HB1.out.weaken h13 (fun x hx => .inr (by simp at hx; omega))).weaken hB3 (fun x hx => .inr ?_)
        simp at hx
        omega
      have hK2 : k = fs.len := by rw [HDn.out, HDk.out]
      refine ⟨mb, rfl, ⟨D, ⟨by omega, by omega⟩, ?_, ?_⟩, ?_, hB2⟩
      · rw [← hK2, HDn.out]; exact HM.out
      · rw [HDn.out]
        exact HE.out.keep (fun _ _ => rfl) (fun g hg => ⟨by have := hg.1; omega, hg.2⟩)
      · have hk1 : ∀ x, x < w.heap.size → wr.heap[x]? = w1.heap[x]? := fun x hx => by
          have y1 := HBut.out.block x (by have := HS3.out; omega) (by simp; omega)
          have y2 := HBel3.out.block x (by omega)
          have y3 := HW2.out.block x (by omega) (by omega) (by simp [Value.ownBlock])
          exact (y1.trans y2).trans y3
        exact HR1.out.keep (fun x hx => hk1 x (by have := HA.out.rr.lt x hx; have := HA.out.base; omega)) (fun x hx => hk1 x (HA.out.row x hx)) (by have := HMb.out; omega)
    | cons name v q =>
      rw [Fs.ok] at hqo
      obtain ⟨o1, o2, o3⟩ := hqo
      rw [Fs.ht] at hqh
      have hht2 : v.ht ≤ n ∧ q.ht ≤ n := by omega
      have hf2 : name.size ≤ 255 ∧ ∃ ρ2, v.fit d (ρ1 - (1 + name.size)) = some ρ2 ∧ q.fit d (some name) ρ2 = some ρ' := by
        rw [Fs.fit] at hqf
        by_cases hcond : name.size > 255 ∨ ρ1 - (1 + (name.size : Int)) < 0 ∨ prevOk prev' name = false
        · rw [if_pos hcond] at hqf; cases hqf
        rw [if_neg hcond] at hqf
        cases hvf : v.fit d (ρ1 - (1 + name.size)) with
        | none => rw [hvf] at hqf; cases hqf
        | some ρ2 => rw [hvf] at hqf; exact ⟨by omega, ρ2, rfl, hqf⟩
      obtain ⟨hn255, ρ2, f1, f2⟩ := hf2
      have hless := V.fit_less f1
      have henc : (Fs.cons name v q).enc = (UInt8.ofNat name.size :: name.data.toList) ++ (v.enc ++ q.enc) := by simp [Fs.enc]
      have hel : 0 < ((Fs.cons name v q).enc ++ [] ++ []).length := by rw [henc]; simp
      have hkl : k + (q.len + 1) = fs.len := by rw [Hks.out, Fs.len_app, HDk.out, Fs.len]
      have hrv := HRdr.out
      rw [henc, List.append_assoc, List.append_assoc] at hrv
      have HC1 := Lib.hid (short_ok hrv hn255)
      have HF1 := Lib.hid f1
      have HF2 := Lib.hid f2
      have hnew : name.data.toList ∉ dn.names := by
        have h := HNS.out
        rw [Hks.out, Fs.names_app, Fs.names, List.pairwise_append] at h
        intro hm
        exact List.lt_irrefl _ (h.2.2 _ hm _ List.mem_cons_self)
      have HNew := Lib.hid hnew
      obtain ⟨len0, hlen0⟩ : ∃ len0, len0 = ((Fs.cons name v q).enc ++ [] ++ []).length := ⟨_, rfl⟩
      rw [← hlen0] at hel HLn HBl
      have hel2 : (0 : Int) < (len0 : Int) := by omega
      have HLen0 := Lib.hid hlen0
      clear hqf f1 f2 henc hrv hqh HRdr hnew hlen0 hel
      go_wp2_with fail
      refine HLn.out.mono ?_
      rintro e w4 ⟨rfl, rfl⟩
      go_wp2_with fail
      refine HC1.out.mono ?_
      rintro e w4 ⟨rfl, r4, b4⟩
      have HC2 := Lib.hid (HV.out v d _ ρ2 dd hht2.1 HF1.out (by omega) o2 hdd _ _ _ _ _ _ _ _ r4)
      have HB4 := Lib.hid b4
      clear r4 b4
      go_wp2_with fail
      refine HC2.out.mono ?_
      rintro e w5 ⟨x, rfl, hxv, r5, b5⟩
      have hb45 := HB4.out.trans b5
      have hs4 := HB4.out.size
      have hs5 := b5.size
      have hM5 : MapOf w5 mb k dn.names D := HM.out.keep (hb45.block _ (by omega) (by simp; omega))
      have hE5 : EntV w5 (fun g => mb < g ∧ g < w5.heap.size) dn D := HE.out.keep (fun g hg => hb45.block g hg.2 (by simp; omega)) (fun g hg => ⟨hg.1, by omega⟩)
      have hkey := Go.WideMaps.keyOf_string_mk (P := Try.prog) Try.underlying9 (s := name) (by unfold maxLen; omega)
      have hszD := hM5.1.size_le
      have hk8 : ¬ (8192 ≤ (Maps.size D : Int)) := by omega
      have hk9 : (Maps.size D : Int) < 8192 := by omega
      have hkmax : k < maxLen := by unfold maxLen; omega
      have HM5 := Lib.hid hM5
      have HE5 := Lib.hid hE5
      have HXV := Lib.hid hxv
      have HR5 := Lib.hid r5
      have HB45 := Lib.hid hb45
      have HKey := Lib.hid hkey
      have HSD := Lib.hid hszD
      clear hM5 hE5 hxv r5 hb45 b5 hkey hszD
      go_wp2_with (first
        | (at_len; refine wpList_len_own _ rfl _ 53 rfl 9 20 under53 anyElem mb k D rfl HM5.out.1 ?_)
        | (at_mapUpdate; refine wpList_mapUpdate_own _ rfl _ _ _ 53 rfl 9 20 law9 under53 anyElem mb k D rfl HM5.out.1 hkmax _ _ _ rfl rfl HKey.out (.held x) [] rfl ?_))
      intro w6 hown6 hg6
      have hs6 := hg6.size
      have hmbne : ∀ g, g ≠ mb → g < w5.heap.size → w6.heap[g]? = w5.heap[g]? := fun g hne hg => hg6.block g hg (fun e => hne (by injection e))
      have hE6 : EntV w6 (fun g => mb < g ∧ g < w6.heap.size) dn D := HE5.out.keep (fun g hg => hmbne g (by omega) hg.2) (fun g hg => ⟨hg.1, by omega⟩)
      have hxv6 : AnyV w6 (fun g => mb < g ∧ g < w6.heap.size) v x :=
        HXV.out.keep (fun g hg => hmbne g (by have := hg.1; omega) hg.2) (fun g hg => ⟨by have := hg.1; omega, by have := hg.2; omega⟩)
      have hM6 : MapOf w6 mb (k + 1) (dn.app (.cons name v .nil)).names (D.put (.string name.data.toList) (.held x)) := by
        refine ⟨hown6, fun y => ?_⟩
        rw [Fs.names_app, List.mem_append]
        by_cases hy : y = name.data.toList
        · subst hy
          rw [has_put_same HM5.out.1.isMap (keyLit _)]
          simp [Fs.names]
        · rw [has_put_other (fun e => hy (by injection e)), HM5.out.2 y]
          simp [Fs.names, hy]
      have hE7 : EntV w6 (fun g => mb < g ∧ g < w6.heap.size) (dn.app (.cons name v .nil)) (D.put (.string name.data.toList) (.held x)) :=
        (hE6.put HNew.out).snoc (fun z => atKey_put_same HM5.out.1.isMap (keyLit _) _ z) hxv6
      have hrd6 : Rdy w6 mb (.iface 99 (.pointer (some ⟨w.heap.size, 0, none⟩))) [] (q.enc ++ []) [] [w.heap.size] sv.ownBlock := by
        have := HR5.out.keep (w1 := w6) (fun g hg => hmbne g (by simp at hg; omega) (by simp at hg; omega)) (fun g hg => hmbne g (by have := (HRow.out g hg).2; omega) (by have := (HRow.out g hg).2; omega)) (by omega)
        simpa using this
      have hbut6 : But w3 w6 [w.heap.size, mb] := (HBut.out.trans (HB45.out.more (by simp))).grown hg6 (fun g hg => .inl (by injection hg with hg; simp [hg]))
      have HM6 := Lib.hid hM6
      have HE7 := Lib.hid hE7
      have HRd6 := Lib.hid hrd6
      have HBut6 := Lib.hid hbut6
      clear hM6 hE7 hrd6 hbut6 hE6 hxv6 hmbne hown6 hg6 hs6
      go_wp2
      refine ⟨⟨k + 1, q, dn.app (.cons name v .nil), some name, ρ2, _, rfl, rfl, by rw [Fs.len_app, HDk.out]; rfl, ?_, o3, hht2.2, HF2.out, by omega, HM6.out, HE7.out, HRd6.out, HBut6.out⟩, ?_⟩
      · rw [Fs.app_assoc]
        exact Hks.out
      · obtain ⟨_, _, _, hbl6⟩ := HRd6.out.rr.buf
        rw [hbl6, HBl.out, HLen0.out]
        simp [Fs.enc]
        omega

/-! ### all values -/
theorem read_all : ∀ n : Nat, RVals n
  | 0 => by
    intro v d ρ ρ' dd hht
    obtain ⟨k, m, f, s, t, ks, fs⟩ := v
    rw [V.ht] at hht
    omega
  | n + 1 => by
    have ih := read_all n
    have hA := read_arr n ih
    have hT := read_tab n ih
    intro v d ρ ρ' dd hht hfit hρ hok hdd
    obtain ⟨k, m, f, s, t, ks, fs⟩ := v
    rw [V.ht] at hht
    rw [V.ok] at hok
    obtain ⟨o1, o2, o3, o4, o5, o6, o7, o8, o9⟩ := hok
    have hd0 : d ≠ 0 := by
      rintro rfl
      rw [V.fit, if_pos (.inr rfl)] at hfit
      cases hfit
    obtain ⟨h0, h1⟩ := V.fit_inv hfit
    rcases h1 with ⟨_, hs⟩ | ⟨rfl, hk⟩ | ⟨rfl, hf⟩
    · unfold Simple at hs
      rcases hs with ⟨rfl, hn⟩ | ⟨rfl, hn⟩ | ⟨rfl, hn⟩ | ⟨rfl, hn⟩ | ⟨rfl, hn⟩ | rfl | ⟨rfl, hn⟩ | ⟨rfl, hn⟩ | ⟨rfl, hn⟩ | ⟨rfl, hn⟩ | rfl | rfl | rfl
      · rcases hn with rfl | rfl
        · exact rl_116_0 dd f s t ks fs
        · exact rl_116_1 dd f s t ks fs
      · exact rl_98 dd m f s t ks fs hn
      · exact rl_66 dd m f s t ks fs hn
      · exact rl_115 dd m f s t ks fs hn
      · exact rl_73 dd m f s t ks fs hn
      · exact rl_108 dd m f s t ks fs o2
      · exact rl_84 dd m f s t ks fs hn
      · exact rl_102 dd m f s t ks fs (f32_number hn).1
      · exact rl_100 dd m f s t ks fs o3
      · exact rl_68 dd m f s t ks fs hn
      · exact rl_83 dd m f s t ks fs (by omega)
      · exact rl_120 dd m f s t ks fs (by omega)
      · exact rl_86 dd m f s t ks fs
    · exact rl_65 dd m f s t ks fs (by omega) (hA ks (d - 1) _ ρ' (dd + 1) (by omega) hk (by omega) h0 o6 (by omega))
    · exact rl_70 dd m f s t ks fs (by omega) (hT fs (d - 1) none _ ρ' (dd + 1) (by omega) hf (by omega) h0 o7 (by omega))

/-- readTableDepth -/
theorem table_read {fs : Fs} {ρ' : Int} (hfit : fs.fit 6 none 2000 = some ρ') (hok : fs.ok) : RTab 0 fs :=
  read_tab fs.ht (read_all fs.ht) fs 6 none 2000 ρ' 0 (Nat.le_refl _) hfit (by omega) (by omega) hok (by omega)

end Go.Proofs.Ytkcdakohmfodjaa
