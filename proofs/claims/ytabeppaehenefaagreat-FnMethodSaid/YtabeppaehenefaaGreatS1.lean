/-
  The specification's own writer.
  The specification's own writer: names, long strings.
  The specification's own writer: a table, given its values.
-/
import Derived.Test.YtabeppaehenefaaGreatCuts
import Derived.Deep.RegionLaw
import Derived.Deep.DeepCutAuto
namespace Go.Proofs.YtabeppaehenefaaGreat
open Go.RowKit
set_option linter.unusedVariables false
attribute [local go_sem ↓] Go.wp_at_zero Go.wp_at_succ

theorem src61 (w2 : World) (b : UInt8) : Src Tryz.prog 1 70 (.slice (some ⟨w2.heap.size, 0, none⟩) 1 1) 1 (bcells [b]) (w2.alloc (.cells #[.int .u8 b.toNat] 5)) :=
  Src.ofSlice _ Tryz.underlying70 ⟨w2.heap.size, 0, none⟩ 1 1 _ rfl (by have := World.news_of_block (Blk.new w2 5 #[.int .u8 b.toNat]); simpa [bcells] using this) (by intro u hu; simp [bcells] at hu; subst hu; rfl)

theorem src61d (w2 : World) (b : UInt8) : Src Tryz.prog 1 70 (.slice (some ⟨w2.heap.size, 0, none⟩) 1 1) 1 (bcells [b]) (w2.alloc (.cells #[.int .u8 b.toNat] 5)).drew :=
  Src.ofSlice _ Tryz.underlying70 ⟨w2.heap.size, 0, none⟩ 1 1 _ rfl (by have := World.news_of_block (Blk.new w2 5 #[.int .u8 b.toNat]).drew; simpa [bcells] using this) (by intro u hu; simp [bcells] at hu; subst hu; rfl)

set_option maxRecDepth 100000 in
set_option maxHeartbeats 4000000 in
/-- put -/
theorem put_any {B bb : Nat} {sv : Value} {xs : List UInt8} {w : World} (n k : Nat) (hb : Buf w B 70 bb sv xs) (hB : B ≤ w.heap.size) (hn : n < 18446744073709551616) (hk : k ≤ 8) (hx : xs.length ≤ 1000000) :
    Calls Tryz.prog 19 #[.pointer (some ⟨bb, 0, none⟩), .int .u64 n, .int .i64 k] w fun e w' => e = .returned (.tuple #[]) ∧
      ∃ sv', Buf w' B 70 bb sv' (xs ++ be n k) ∧ Wr w w' bb sv.ownBlock sv'.ownBlock := by
  obtain ⟨i1, hi1, hz1, hs1, hb1⟩ := info_parts info5
  have hw1 : IntKind.i64.wrap ((k : Int) - 1) = (k : Int) - 1 := by
    have : ((k : Int) - 1) % 18446744073709551616 = if k = 0 then 18446744073709551615 else (k : Int) - 1 := by
      split <;> omega
    simp [IntKind.wrap, IntKind.bits, IntKind.signed, this]
    split <;> omega
  go_enter Tryz.func19, Tryz.ntmps19
  go_wp2_with fail
  go_loopw [6] (fun i wr => ∃ (j : Nat) (done : List UInt8) (sv' : Value), i = .int .i64 ((j : Int) - 1) ∧ j ≤ k ∧ done ++ be n j = be n k ∧ Buf wr B 70 bb sv' (xs ++ done) ∧ Wr w wr bb sv.ownBlock sv'.ownBlock) (fun i _ => (intOf i + 1).toNat)
  case atStart => exact ⟨k, [], sv, rfl, Nat.le_refl _, rfl, by simpa using hb, Wr.refl _ _ _⟩
  case round =>
    obtain ⟨j, done, sv', rfl, hj, hdone, hbuf, hwr⟩ := hrel
    have hdl : done.length ≤ 8 := by
      have := congrArg List.length hdone
      rw [List.length_append, be_len, be_len] at this
      omega
    have Hdone := Lib.hid hdone
    clear hdone
    cases j with
    | zero =>
      rw [show (((0 : Nat) : Int) - 1) = -1 by rfl]
      go_wp2
      go_end0
      have : done = be n k := by simpa [be] using Hdone.out
      rw [← this]
      exact ⟨rfl, _, hbuf, hwr⟩
    | succ j =>
      have hj0 : (0 : Int) ≤ (j : Int) := by omega
      have hj1 : (j : Int) ≤ 8 := by omega
      have q0 := hbuf.cell
      have q1 := hbuf.frozen
      have q2 := fun o => (hbuf.alloc o).cell
      rw [show (((j + 1 : Nat) : Int) - 1) = (j : Int) by omega]
      have hw8 : IntKind.i64.wrap (8 * (j : Int)) = 8 * (j : Int) := by
        have : (8 * (j : Int)) % 18446744073709551616 = 8 * (j : Int) := Int.emod_eq_of_lt (by omega) (by omega)
        simp [IntKind.wrap, IntKind.bits, IntKind.signed, this]
        omega
      have h80 : (0 : Int) ≤ 8 * (j : Int) := by omega
      have h81 : 8 * (j : Int) ≤ 64 := by omega
      go_wp2_with fail
      obtain ⟨b, hb⟩ : ∃ b : UInt8, b = UInt8.ofNat (n >>> (8 * j)) := ⟨_, rfl⟩
      have hbyte : IntKind.u8.wrap ((n : Int) / 2 ^ (8 * (j : Int)).toNat) = (b.toNat : Int) := by
        rw [hb, toNat_ofNat8, Nat.shiftRight_eq_div_pow, show (8 * (j : Int)).toNat = 8 * j by omega]
        simp [IntKind.wrap, IntKind.bits, IntKind.signed]
      have Hb := Lib.hid hb
      clear hb
      have hol := hbuf.own
      rw [List.length_append] at hol
      go_region_law (first
        | (refine step_append_src _ rfl (.tmp 16) (.tmp 22) 70 70 rfl B 5 i1 _ 1 1 Tryz.underlying70 hi1 hz1 hs1 hb1 rfl sv' (xs.length + done.length) (bcells (xs ++ done)) rfl ((hol.alloc _).drew) (.slice (some ⟨wr.heap.size, 0, none⟩) 1 1) 1 (bcells [b]) rfl
             (src61d wr b) (by unfold maxLen; omega) (by omega) (by have := hwr.size; simp; omega) ?_
           intro v' w5 hown5 hg5 hat5
           obtain ⟨A5, c5, rfl⟩ := own_shape hown5
           have hbx := ((hbuf.alloc _).drew).blk_grown hg5
           have yb5 := hbx.cell0
           have fb5 := hbx.frozen 0))
      all_goals
        have hap := ((hbuf.alloc (.cells #[.int .u8 b.toNat] 5)).drew).appended (ys := [b]) (by simpa [List.length_append] using hown5) hg5 hat5
        have hd2 : (done ++ [b]) ++ be n j = be n k := by
          rw [← Hdone.out, be, ← Hb.out]
          simp
        have Hap := Lib.hid hap
        have Hd2 := Lib.hid hd2
        clear hap hd2
        generalize w5.setCell ⟨bb, 0, none⟩ (.slice A5 (xs.length + done.length + 1) c5) = w9 at Hap ⊢
        go_wp2
        refine ⟨⟨j, done ++ [b], _, by go_num, by omega, Hd2.out, by rw [← List.append_assoc]; exact Hap.out.1, ((hwr.alloc _).drew).trans Hap.out.2⟩, by simp [intOf]⟩

end Go.Proofs.YtabeppaehenefaaGreat

namespace Go.Proofs.YtabeppaehenefaaGreat
open Go.RowKit
set_option linter.unusedVariables false

theorem size_toList (s : ByteArray) : s.data.toList.length = s.size := by rw [Array.length_toList]; rfl

theorem put_n {B bb : Nat} {sv : Value} {xs : List UInt8} {w : World} (n : Int) (k : Nat) (hb : Buf w B 70 bb sv xs) (hB : B ≤ w.heap.size) (h0 : 0 ≤ n) (hn : n < 18446744073709551616) (hk : k ≤ 8) (hx : xs.length ≤ 1000000) :
    Calls Tryz.prog 19 #[.pointer (some ⟨bb, 0, none⟩), .int .u64 n, .int .i64 k] w fun e w' => e = .returned (.tuple #[]) ∧
      ∃ sv', Buf w' B 70 bb sv' (xs ++ be n.toNat k) ∧ Wr w w' bb sv.ownBlock sv'.ownBlock := by
  have := put_any n.toNat k hb hB (by omega) hk hx
  rwa [show ((n.toNat : Nat) : Int) = n by omega] at this

set_option maxRecDepth 100000 in
set_option maxHeartbeats 1000000 in
/-- short -/
theorem short_any {B bb : Nat} {sv : Value} {xs : List UInt8} {w : World} (s : ByteArray) (hb : Buf w B 70 bb sv xs) (hB : B ≤ w.heap.size) (hs : s.size ≤ 400000) (hx : xs.length ≤ 500000) :
    Calls Tryz.prog 21 #[.pointer (some ⟨bb, 0, none⟩), .string s] w fun e w' => e = .returned (.tuple #[]) ∧
      ∃ sv', Buf w' B 70 bb sv' (xs ++ (be s.size 1 ++ s.data.toList)) ∧ Wr w w' bb sv.ownBlock sv'.ownBlock := by
  obtain ⟨i0, hi, hz0, hz1, hz2⟩ := info_parts info5
  go_enter Tryz.func21, Tryz.ntmps21
  go_wp2_with fail
  refine (put_n (s.size : Int) 1 hb hB (by omega) (by omega) (by omega) (by omega)).mono ?_
  rintro e w1 ⟨rfl, sv1, hb1, hw1⟩
  have hl : (xs ++ be (s.size : Int).toNat 1).length = xs.length + 1 := by rw [List.length_append, be_len]
  have hc := hb1.cell
  have hf := hb1.frozen
  have hol := hb1.own
  have hsz := hw1.size
  rw [hl] at hol
  go_wp2_with (at_builtin; refine wpList_append_src _ rfl (.tmp 12) (.tmp 13) 70 9 rfl B 5 i0 (.int .u8 0) 1 1 Tryz.underlying70 hi hz0 hz1 hz2 rfl sv1 (xs.length + 1) _ rfl hol _ s.size (byteCells s) rfl (Src.ofString _ Tryz.underlying9 s) (by unfold maxLen; omega) (by omega) (by omega) ?_)
  intro sv' w2 hown hg hat
  have hfin := hb1.appended (ys := s.data.toList) (by rw [hl, size_toList]; exact hown) hg hat
  have hc1 := (hb1.blk_grown hg).cell0
  have hf1 := (hb1.blk_grown hg).frozen 0
  obtain ⟨A', c', rfl⟩ := own_shape hown
  go_wp2
  go_end0
  exact ⟨rfl, _, by rw [← List.append_assoc]; exact hfin.1, hw1.trans hfin.2⟩

set_option maxRecDepth 100000 in
set_option maxHeartbeats 1000000 in
/-- long -/
theorem long_any {B bb : Nat} {sv : Value} {xs : List UInt8} {w : World} (s : ByteArray) (hb : Buf w B 70 bb sv xs) (hB : B ≤ w.heap.size) (hs : s.size ≤ 400000) (hx : xs.length ≤ 500000) :
    Calls Tryz.prog 22 #[.pointer (some ⟨bb, 0, none⟩), .string s] w fun e w' => e = .returned (.tuple #[]) ∧
      ∃ sv', Buf w' B 70 bb sv' (xs ++ (be s.size 4 ++ s.data.toList)) ∧ Wr w w' bb sv.ownBlock sv'.ownBlock := by
  obtain ⟨i0, hi, hz0, hz1, hz2⟩ := info_parts info5
  go_enter Tryz.func22, Tryz.ntmps22
  go_wp2_with fail
  refine (put_n (s.size : Int) 4 hb hB (by omega) (by omega) (by omega) (by omega)).mono ?_
  rintro e w1 ⟨rfl, sv1, hb1, hw1⟩
  have hl : (xs ++ be (s.size : Int).toNat 4).length = xs.length + 4 := by rw [List.length_append, be_len]
  have hc := hb1.cell
  have hf := hb1.frozen
  have hol := hb1.own
  have hsz := hw1.size
  rw [hl] at hol
  go_wp2_with (at_builtin; refine wpList_append_src _ rfl (.tmp 12) (.tmp 13) 70 9 rfl B 5 i0 (.int .u8 0) 1 1 Tryz.underlying70 hi hz0 hz1 hz2 rfl sv1 (xs.length + 4) _ rfl hol _ s.size (byteCells s) rfl (Src.ofString _ Tryz.underlying9 s) (by unfold maxLen; omega) (by omega) (by omega) ?_)
  intro sv' w2 hown hg hat
  have hfin := hb1.appended (ys := s.data.toList) (by rw [hl, size_toList]; exact hown) hg hat
  have hc1 := (hb1.blk_grown hg).cell0
  have hf1 := (hb1.blk_grown hg).frozen 0
  obtain ⟨A', c', rfl⟩ := own_shape hown
  go_wp2
  go_end0
  exact ⟨rfl, _, by rw [← List.append_assoc]; exact hfin.1, hw1.trans hfin.2⟩

end Go.Proofs.YtabeppaehenefaaGreat

namespace Go.Proofs.YtabeppaehenefaaGreat
open Go.RowKit
set_option linter.unusedVariables false

def Wrote (w : World) (B bb : Nat) (sv : Value) (xs ys : List UInt8) (e : Ending) (w' : World) : Prop :=
  e = .returned (.tuple #[]) ∧ ∃ sv', Buf w' B 70 bb sv' (xs ++ ys) ∧ Wr w w' bb sv.ownBlock sv'.ownBlock

def SVal (n : Nat) : Prop := ∀ (k m : Int) (f : Nat) (s : Int) (t : ByteArray) (ks : Vs) (fs : Fs) (a1 : Option Addr) (c1 : Nat) (a2 : Option Addr) (c2 : Nat) (zs ys : List Value) (p : Nat → Prop) (B bb : Nat) (sv : Value) (xs : List UInt8) (w : World),
  (V.mk k m f s t ks fs).ht ≤ n → (V.mk k m f s t ks fs).good → (V.mk k m f s t ks fs).ok → Rd w p a1 zs → VsC w p ks zs → ks.len ≤ c1 → Rd w p a2 ys → FsC w p fs ys → fs.len ≤ c2 →
  Buf w B 70 bb sv xs → B ≤ w.heap.size → (∀ g, p g → g < w.heap.size ∧ g ≠ bb ∧ some g ≠ sv.ownBlock) → (V.mk k m f s t ks fs).enc.length ≤ 30000 → xs.length + (V.mk k m f s t ks fs).enc.length ≤ 200000 →
  Calls Tryz.prog 33 #[.pointer (some ⟨bb, 0, none⟩), .agg (vcells k m f s t a1 ks.len c1 a2 fs.len c2).toArray] w (Wrote w B bb sv xs (V.mk k m f s t ks fs).enc)

def STab (n : Nat) : Prop := ∀ (fs : Fs) (prev : Option ByteArray) (A : Option Addr) (c : Nat) (ys : List Value) (p : Nat → Prop) (B bb : Nat) (sv : Value) (xs : List UInt8) (w : World),
  fs.ht ≤ n → fs.good prev → fs.ok → fs.len ≤ 140737488355328 → Rd w p A ys → FsC w p fs ys → fs.len ≤ c →
  Buf w B 70 bb sv xs → B ≤ w.heap.size → (∀ g, p g → g < w.heap.size ∧ g ≠ bb ∧ some g ≠ sv.ownBlock) → fs.enc.length ≤ 30000 → xs.length + 4 + fs.enc.length ≤ 200000 →
  Calls Tryz.prog 23 #[.pointer (some ⟨bb, 0, none⟩), .slice A fs.len c] w (Wrote w B bb sv xs (tab fs))

theorem under5 : Tryz.prog.underlying 5 = some (.int .u8) := by kernel_rfl

/-- the bytes of a row as a string -/
theorem conv_own {w : World} {B : Nat} {v : Value} {xs : List UInt8} (h : Own w B v xs) : (convert 70 9 v).run Tryz.prog w = .ok (.string ⟨xs.toArray⟩) w := by
  rcases h.2 with ⟨rfl, h0⟩ | ⟨g, cap, cur, rfl, _⟩
  · have : xs = [] := List.eq_nil_of_length_eq_zero h0
    subst this
    rw [run_convert_bytes_string w 70 9 5 none 0 0 Tryz.underlying70 under5 Tryz.underlying9]
    rfl
  · refine run_convert_bytes_back w 70 9 5 ⟨g, 0, none⟩ cap xs Tryz.underlying70 under5 Tryz.underlying9 fun j hj => ?_
    have := World.ownsRow.cells h (g := g) rfl j (.int .u8 (xs[j].toNat : Int)) (by simp [bcells, List.getElem?_eq_getElem hj])
    exact this

/-- a new writer -/
theorem Buf.new2 (w : World) : Buf ((w.alloc (.cells #[] 5)).alloc (.cells #[.slice (some ⟨w.heap.size, 0, none⟩) 0 0] 70)) w.heap.size 70 (w.heap.size + 1) (.slice (some ⟨w.heap.size, 0, none⟩) 0 0) [] := by
  refine ⟨by omega, by decide, ?_, ?_⟩
  · have := Blk.new (w.alloc (.cells #[] 5)) 70 #[.slice (some ⟨w.heap.size, 0, none⟩) 0 0]
    simpa using this
  · exact (World.ownsRow_lit (e := 5) (size := 1) w #[] 0 (Nat.le_refl _) (by unfold maxLen; omega) rfl).alloc _

set_option maxRecDepth 100000 in
set_option maxHeartbeats 8000000 in
theorem spec_table (n : Nat) (hV : SVal n) : STab n := by
  intro fs prev A c ys p B bb sv xs w hht hgood hok hlen hR hF hc hb hB hp henc hxs
  have HV := Lib.hid hV
  have HG := Lib.hid hgood
  have Hok := Lib.hid hok
  have HR := Lib.hid hR
  have HF := Lib.hid hF
  have HP := Lib.hid hp
  clear hV hgood hok hR hF hp
  go_enter Tryz.func23, Tryz.ntmps23
  go_wp2_with fail
  have hbi := Buf.new2 w
  have hbel : Below w.heap.size w ((w.alloc (.cells #[] 5)).alloc (.cells #[.slice (some ⟨w.heap.size, 0, none⟩) 0 0] 70)) := ((Below.refl _ _).alloc (Nat.le_refl _) _).alloc (by simp) _
  generalize ((w.alloc (.cells #[] 5)).alloc (.cells #[.slice (some ⟨w.heap.size, 0, none⟩) 0 0] 70)) = w0 at hbi hbel ⊢
  generalize hsv0 : (Value.slice (some ⟨w.heap.size, 0, none⟩) 0 0) = sv0 at hbi ⊢
  clear hsv0
  go_loopw [11] (fun i wr => ∃ (k : Nat) (rest : Fs) (prev' : Option ByteArray) (done : List UInt8) (svi : Value), i = .int .i64 k ∧ rest.len + k = fs.len ∧ rest.ok ∧ rest.good prev' ∧ rest.ht ≤ n ∧ done ++ rest.enc = fs.enc ∧ FsC w p rest (ys.drop (k * 8)) ∧
    Buf wr w.heap.size 70 (w.heap.size + 1) svi done ∧ Below w.heap.size w wr) (fun i _ => fs.len - (intOf i).toNat)
  case atStart => exact ⟨0, fs, prev, [], sv0, rfl, rfl, Hok.out, HG.out, hht, rfl, by simpa using HF.out, hbi, hbel⟩
  case round =>
    obtain ⟨k, rest, prev', done, svi, rfl, hrest, hrok, hrg, hrh, hdone, hrF, hbi', hbel'⟩ := hrel
    have hdl : done.length + rest.enc.length = fs.enc.length := by rw [← hdone, List.length_append]
    have Hdone := Lib.hid hdone
    clear hdone hbi hbel
    cases rest with
    | nil =>
      rw [Fs.len] at hrest
      have hde : done = fs.enc := by simpa [Fs.enc] using Hdone.out
      subst hde
      have hkl : k = fs.len := by omega
      subst hkl
      have hcv := conv_own hbi'.isOwn
      have hcell := hbi'.cell
      have hbo := hb.belowAll hbel'
      have hsz := hbel'.size
      obtain ⟨A6, c6, rfl⟩ := hbi'.shape
      clear hrest
      go_wp2_with fail
      refine (long_any ⟨fs.enc.toArray⟩ hbo (by omega) (by show fs.enc.toArray.size ≤ _; simp; omega) (by omega)).mono ?_
      rintro e w2 ⟨rfl, sv', hb2, hw2⟩
      go_wp2
      go_end0
      refine ⟨rfl, sv', ?_, (Wr.ofBelow hbel' (Nat.le_refl _) _).trans hw2⟩
      have : (⟨fs.enc.toArray⟩ : ByteArray).size = fs.enc.length := by show fs.enc.toArray.size = _; simp
      rw [this] at hb2
      exact hb2
    | cons name v q =>
      obtain ⟨vk, vn, vf, vs, vt, vks, vfs⟩ := v
      rw [Fs.len] at hrest
      obtain ⟨b, off, a1, c1, a2, c2, us, zs, rfl, hpb, e0, e1, e2, e3, e4, e5, e6, e7, x1, x2, x3, x4, x5, x6, x7⟩ := FsC.at_ HR.out hrF
      have hkeep : ∀ g, p g → wr.heap[g]? = w.heap[g]? := fun g hg => hbel'.block g (HP.out g hg).1
      have hb' := hkeep b hpb
      rw [← World.cell?_of_block (w := w) (w' := wr) (a := ⟨b, off + k * 8, none⟩) hb'] at e0
      rw [← World.cell?_of_block (w := w) (w' := wr) (a := ⟨b, off + k * 8 + 1, none⟩) hb'] at e1
      rw [← World.cell?_of_block (w := w) (w' := wr) (a := ⟨b, off + k * 8 + 2, none⟩) hb'] at e2
      rw [← World.cell?_of_block (w := w) (w' := wr) (a := ⟨b, off + k * 8 + 3, none⟩) hb'] at e3
      rw [← World.cell?_of_block (w := w) (w' := wr) (a := ⟨b, off + k * 8 + 4, none⟩) hb'] at e4
      rw [← World.cell?_of_block (w := w) (w' := wr) (a := ⟨b, off + k * 8 + 5, none⟩) hb'] at e5
      rw [← World.cell?_of_block (w := w) (w' := wr) (a := ⟨b, off + k * 8 + 6, none⟩) hb'] at e6
      rw [← World.cell?_of_block (w := w) (w' := wr) (a := ⟨b, off + k * 8 + 7, none⟩) hb'] at e7
      have hk0 : (0 : Int) ≤ (k : Int) := by omega
      have hk1 : (k : Int) < (fs.len : Int) := by omega
      rw [Fs.ok] at hrok
      obtain ⟨o1, o2, o3⟩ := hrok
      rw [Fs.good] at hrg
      obtain ⟨g1, g2, g3, g4⟩ := hrg
      have hlen2 : (Fs.cons name (.mk vk vn vf vs vt vks vfs) q).enc.length = 1 + name.size + (V.mk vk vn vf vs vt vks vfs).enc.length + q.enc.length := by
        rw [Fs.enc, List.length_append, List.length_append, List.length_cons, size_toList]; omega
      have hht2 : (V.mk vk vn vf vs vt vks vfs).ht ≤ n ∧ q.ht ≤ n := by
        rw [Fs.ht] at hrh; omega
      go_upto_region 4 with fail
      have hx1 := Blk.new wr 275 (Value.string name :: vcells vk vn vf vs vt a1 vks.len c1 a2 vfs.len c2).toArray
      have hbi1 := hbi'.alloc (.cells (Value.string name :: vcells vk vn vf vs vt a1 vks.len c1 a2 vfs.len c2).toArray 275)
      have hbel1 := hbel'.alloc hbel'.size (.cells (Value.string name :: vcells vk vn vf vs vt a1 vks.len c1 a2 vfs.len c2).toArray 275)
      have hiX : ¬ (wr.heap.size = w.heap.size + 1) := by have := hbi'.lt; omega
      have hrX : some wr.heap.size ≠ svi.ownBlock := fun e => by have := (hbi'.row_lt _ e.symm).2; omega
      generalize wr.alloc (.cells (Value.string name :: vcells vk vn vf vs vt a1 vks.len c1 a2 vfs.len c2).toArray 275) = wx at hx1 hbi1 hbel1 ⊢
      have y0 : wx.cell? ⟨wr.heap.size, 0, none⟩ = some (.string name) := by rw [hx1.cell]; rfl
      have hsx := hbel1.size
      clear e0 e1 e2 e3 e4 e5 e6 e7
      go_wp2_with fail
      refine (short_any name hbi1 (by omega) (by omega) (by omega)).mono ?_
      rintro e w2 ⟨rfl, sv2, hb2, hw2⟩
      have hx2 := hw2.blk hx1 hiX hrX
      have hbel2 : Below w.heap.size w w2 := hbel1.trans (hw2.below (by omega) (fun g hg => (hbi1.row_lt g hg).1) hsx)
      have y1 : w2.cell? ⟨wr.heap.size, 1, none⟩ = some (.int .u8 vk) := by rw [hx2.cell]; rfl
      have y2 : w2.cell? ⟨wr.heap.size, 2, none⟩ = some (.int .i64 vn) := by rw [hx2.cell]; rfl
      have y3 : w2.cell? ⟨wr.heap.size, 3, none⟩ = some (.float .f64 vf) := by rw [hx2.cell]; rfl
      have y4 : w2.cell? ⟨wr.heap.size, 4, none⟩ = some (.int .i64 vs) := by rw [hx2.cell]; rfl
      have y5 : w2.cell? ⟨wr.heap.size, 5, none⟩ = some (.string vt) := by rw [hx2.cell]; rfl
      have y6 : w2.cell? ⟨wr.heap.size, 6, none⟩ = some (.slice a1 vks.len c1) := by rw [hx2.cell]; rfl
      have y7 : w2.cell? ⟨wr.heap.size, 7, none⟩ = some (.slice a2 vfs.len c2) := by rw [hx2.cell]; rfl
      have hk2 : ∀ g, p g → w2.heap[g]? = w.heap[g]? := fun g hg => hbel2.block g (HP.out g hg).1
      have hsz2 := hbel2.size
      have hcall := HV.out vk vn vf vs vt vks vfs a1 c1 a2 c2 us zs p w.heap.size (w.heap.size + 1) sv2 (done ++ (be name.size 1 ++ name.data.toList)) w2 hht2.1 g3 o2 (x1.keep hk2) (x2.keep hk2) x3 (x4.keep hk2) (x5.keep hk2) x6 hb2 (by omega)
        (fun g hg => ⟨by have := (HP.out g hg).1; omega, by have := (HP.out g hg).1; omega, fun e => by have := (HP.out g hg).1; have := (hb2.row_lt g e.symm).1; omega⟩) (by omega) (by rw [List.length_append, List.length_append, be_len, size_toList]; omega)
      have HCall := Lib.hid hcall
      clear hcall hk2 hkeep x1 x2 x4 x5
      go_wp2_with fail
      refine HCall.out.mono ?_
      rintro e w3 ⟨rfl, sv3, hb3, hw3⟩
      have hbel3 : Below w.heap.size w w3 := hbel2.trans (hw3.below (by omega) (fun g hg => (hb2.row_lt g hg).1) hsz2)
      go_wp2
      refine ⟨⟨k + 1, q, some name, _, sv3, by go_num, by omega, o3, g4, hht2.2, ?_, ?_, hb3, hbel3⟩, by simp [intOf]; omega⟩
      · rw [← Hdone.out, Fs.enc, be1]
        simp
      · rw [show (k + 1) * 8 = k * 8 + 8 by omega]
        exact x7

end Go.Proofs.YtabeppaehenefaaGreat
