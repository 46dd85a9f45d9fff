/-
  FnMethod: spec.MethodBytes' bits: the closure that puts them.
  FnMethod: the memory of spec.MethodBytes in its loop.
-/
import Derived.Test.YtabeppaehenefaaGreatS1
import Derived.Test.YtabeppaehenefaaGreatMf
namespace Go.Proofs.YtabeppaehenefaaGreat
open Go.RowKit
attribute [local go_sem ↓] Go.wp_at_zero Go.wp_at_succ

/-- between w and w' only these blocks changed, of those that were there -/
structure Sa (w w' : World) (S : List Nat) (r : Option Nat) : Prop where
  os : w'.os = w.os
  tape : w'.tape = w.tape
  output : w'.output = w.output
  size : w.heap.size ≤ w'.heap.size
  block : ∀ g, g < w.heap.size → g ∉ S → some g ≠ r → w'.heap[g]? = w.heap[g]?

theorem Sa.below {w w' : World} {S : List Nat} {r : Option Nat} {B : Nat} (h : Sa w w' S r) (hS : ∀ g ∈ S, B ≤ g) (hr : ∀ g, r = some g → B ≤ g) (hw : B ≤ w.heap.size) : Below B w w' :=
  ⟨h.os, h.tape, h.output, h.size, fun k hk => h.block k (by omega) (fun e => by have := hS k e; omega) (fun e => by have := hr k e.symm; omega)⟩

/-- what the closure leaves -/
def FlushPost (w : World) (B bb pb ph n h : Nat) (sv : Value) (xs : List UInt8) (e : Ending) (w' : World) : Prop :=
  e = .returned (.tuple #[]) ∧ ∃ sv', Buf w' B 70 bb sv' (xs ++ if 0 < n then [UInt8.ofNat h] else []) ∧ Blk w' pb 3 #[.int .i64 0] ∧ Blk w' ph 5 #[.int .u8 (if 0 < n then 0 else (h : Int))] ∧ (sv'.ownBlock = sv.ownBlock ∨ ∀ g, sv'.ownBlock = some g → w.heap.size ≤ g) ∧ Sa w w' [bb, pb, ph] sv.ownBlock

set_option maxRecDepth 100000 in
set_option maxHeartbeats 2000000 in
theorem flush_any {B bb pb pw ph n h : Nat} {sv : Value} {xs : List UInt8} {w : World} (hb : Buf w B 70 bb sv xs) (hB : B ≤ w.heap.size) (hpb : Blk w pb 3 #[.int .i64 n]) (hpw : Blk w pw 69 #[.pointer (some ⟨bb, 0, none⟩)]) (hph : Blk w ph 5 #[.int .u8 h])
    (hne : some ph ≠ sv.ownBlock) (hh : h ≤ 255) (hx : xs.length ≤ 900000) :
    Calls Tryz.prog 20 #[.pointer (some ⟨pb, 0, none⟩), .pointer (some ⟨pw, 0, none⟩), .pointer (some ⟨ph, 0, none⟩)] w (FlushPost w B bb pb ph n h sv xs) := by
  have c1 := hpb.cell0
  have c2 := hpw.cell0
  have c3 := hph.cell0
  have n1 := hpb.ne_ hpw (by decide)
  have n2 := hpb.ne_ hph (by decide)
  have n3 := hpb.ne_ hb.blk (by decide)
  have n4 := hph.ne_ hb.blk (by decide)
  by_cases h0 : 0 < n
  · have h0' : (0 : Int) < (n : Int) := by omega
    have hcall := put_n (h : Int) 1 hb hB (by omega) (by omega) (by omega) (by omega)
    have HC := Lib.hid hcall
    have HBf := Lib.hid hb
    have HPB := Lib.hid hpb
    have HPH := Lib.hid hph
    clear hcall hb hpb hph hpw
    go_enter Tryz.func20, Tryz.ntmps20
    go_wp2_with fail
    refine HC.out.mono ?_
    rintro e w1 ⟨rfl, sv1, hb1, hw1⟩
    have g1 : Blk w1 pb 3 #[.int .i64 n] := (hw1.block pb HPB.out.lt n3 (by have := HBf.out.row_ne HPB.out (by decide); exact this)).trans HPB.out
    have g2 : Blk w1 ph 5 #[.int .u8 h] := (hw1.block ph HPH.out.lt n4 hne).trans HPH.out
    have d1 := g1.cell0
    have d2 := g2.cell0
    have f1 := g1.frozen 0
    have f2 := g2.frozen 0
    have k1 : ∀ g, g ≠ pb → g ≠ ph → ((w1.setCell ⟨pb, 0, none⟩ (.int .i64 0)).setCell ⟨ph, 0, none⟩ (.int .u8 0)).heap[g]? = w1.heap[g]? := fun g a b =>
      (Below.heap_setCell _ ⟨ph, 0, none⟩ _ g b).trans (Below.heap_setCell _ ⟨pb, 0, none⟩ _ g a)
    have n5 : some pb ≠ sv1.ownBlock := hw1.ne HPB.out.lt (HBf.out.row_ne HPB.out (by decide))
    have n6 : some ph ≠ sv1.ownBlock := hw1.ne HPH.out.lt hne
    have hfin : FlushPost w B bb pb ph n h sv xs (.returned (.tuple #[])) ((w1.setCell ⟨pb, 0, none⟩ (.int .i64 0)).setCell ⟨ph, 0, none⟩ (.int .u8 0)) := by
      refine ⟨rfl, sv1, ⟨hb1.ge, hb1.ne, (hb1.blk.far (fun e => n3 e.symm) _).far (fun e => n4 e.symm) _, ?_⟩, ?_, ?_, ?_, ?_⟩
      · rw [if_pos h0]
        have e1 : be (h : Int).toNat 1 = [UInt8.ofNat h] := by simp [be]
        have := Own.keep (w1 := (w1.setCell ⟨pb, 0, none⟩ (.int .i64 0)).setCell ⟨ph, 0, none⟩ (.int .u8 0)) hb1.own (fun g hg => k1 g (fun e => n5 (by rw [hg, e])) (fun e => n6 (by rw [hg, e])))
        rw [e1] at this
        exact this
      · have := (g1.set_ 0 (.int .i64 0)).far n2 (.int .u8 0) (p := ⟨ph, 0, none⟩); simpa using this
      · rw [if_pos h0]
        have := (g2.far (fun e => n2 e.symm) (.int .i64 0) (p := ⟨pb, 0, none⟩)).set_ 0 (.int .u8 0); simpa using this
      · exact hw1.row
      · exact ⟨hw1.os, hw1.tape, hw1.output, by have := hw1.size; simpa [World.setCell] using this, fun g hg hS hr => (k1 g (by simp at hS; exact hS.2.1) (by simp at hS; exact hS.2.2)).trans (hw1.block g hg (by simp at hS; exact hS.1) hr)⟩
    have HFin := Lib.hid hfin
    clear hfin k1 hw1 hb1
    go_wp2_with fail
    go_end0
    exact HFin.out
  · have hn : n = 0 := by omega
    subst hn
    go_enter Tryz.func20, Tryz.ntmps20
    go_wp2
    try go_end0
    exact ⟨rfl, sv, by simpa using hb, by simpa using hpb, by simpa using hph, .inl rfl, rfl, rfl, rfl, Nat.le_refl _, fun _ _ _ _ => rfl⟩

end Go.Proofs.YtabeppaehenefaaGreat

namespace Go.Proofs.YtabeppaehenefaaGreat
open Go.RowKit

/-- the memory in MethodBytes' loop: w the world that it was called in; lo the number of blocks when its counters were made, lt the letters' block -/
structure Ms (w w5 : World) (lo lt : Nat) (cl me : Int) (A : Option Addr) (L c n h : Nat) (sv : Value) (ys : List UInt8) (wr : World) : Prop where
  buf : Buf wr (w.heap.size + 1) 70 (w.heap.size + 1 + 1) sv ys
  b0 : Blk wr w.heap.size 28 #[.int .i64 cl, .int .i64 me, .slice A L c]
  b3 : Blk wr (w.heap.size + 1 + 1 + 1) 69 #[.pointer (some ⟨w.heap.size + 1 + 1, 0, none⟩)]
  bp : Blk wr lo 3 #[.int .i64 n]
  bh : Blk wr (lo + 1) 5 #[.int .u8 h]
  hh : h ≤ 255
  own : ∀ g, sv.ownBlock = some g → g < lo ∨ w5.heap.size ≤ g
  row : wr.heap[lt]? = w5.heap[lt]?
  size : w5.heap.size ≤ wr.heap.size
  bel : Below w.heap.size w wr
  lo_ge : w.heap.size + 4 ≤ lo
  lt_eq : lt = lo + 2
  w5_eq : w5.heap.size = lo + 3

section
variable {w w5 : World} {lo lt : Nat} {cl me : Int} {A : Option Addr} {L c n h : Nat} {sv : Value} {ys : List UInt8} {wr : World}
theorem Ms.alloc (m : Ms w w5 lo lt cl me A L c n h sv ys wr) (o : Obj) : Ms w w5 lo lt cl me A L c n h sv ys (wr.alloc o) :=
  ⟨m.buf.alloc o, m.b0.alloc o, m.b3.alloc o, m.bp.alloc o, m.bh.alloc o, m.hh, m.own, (Below.heap_alloc _ _ _ (by have := m.size; have := m.lt_eq; have := m.w5_eq; omega)).trans m.row, by have := m.size; simp; omega, m.bel.alloc m.bel.size o, m.lo_ge, m.lt_eq, m.w5_eq⟩
theorem Ms.drew (m : Ms w w5 lo lt cl me A L c n h sv ys wr) : Ms w w5 lo lt cl me A L c n h sv ys wr.drew :=
  ⟨m.buf.drew, m.b0.drew, m.b3.drew, m.bp.drew, m.bh.drew, m.hh, m.own, m.row, m.size, m.bel.drew, m.lo_ge, m.lt_eq, m.w5_eq⟩
theorem Ms.hne (m : Ms w w5 lo lt cl me A L c n h sv ys wr) : some (lo + 1) ≠ sv.ownBlock := fun e => by
  have := m.w5_eq
  rcases m.own _ e.symm with e | e <;> omega
theorem Ms.lne (m : Ms w w5 lo lt cl me A L c n h sv ys wr) : some lt ≠ sv.ownBlock := fun e => by
  have := m.w5_eq
  have := m.lt_eq
  rcases m.own _ e.symm with e | e <;> omega
/-- a writer's call -/
theorem Ms.call (m : Ms w w5 lo lt cl me A L c n h sv ys wr) {w1 : World} {sv1 : Value} {ys1 : List UInt8} (hb : Buf w1 (w.heap.size + 1) 70 (w.heap.size + 1 + 1) sv1 ys1) (hw : Wr wr w1 (w.heap.size + 1 + 1) sv.ownBlock sv1.ownBlock) :
    Ms w w5 lo lt cl me A L c n h sv1 ys1 w1 := by
  have h1 := m.lo_ge
  have h2 := m.lt_eq
  have h3 := m.w5_eq
  have h4 := m.size
  refine ⟨hb, (hw.block _ m.b0.lt (by omega) (m.buf.row_ne m.b0 (by decide))).trans m.b0, (hw.block _ m.b3.lt (by omega) (m.buf.row_ne m.b3 (by decide))).trans m.b3, (hw.block _ m.bp.lt (by omega) (m.buf.row_ne m.bp (by decide))).trans m.bp,
    (hw.block _ m.bh.lt (by omega) m.hne).trans m.bh, m.hh, fun g hg => ?_, (hw.block _ (by omega) (by omega) m.lne).trans m.row, Nat.le_trans m.size hw.size, m.bel.trans (hw.below (by omega) (fun g hg => by have := (m.buf.row_lt g hg).1; omega) m.bel.size), h1, h2, h3⟩
  rcases hw.row with e | e
  · rw [e] at hg; exact m.own g hg
  · exact .inr (by have := e g hg; omega)
/-- the closure -/
theorem Ms.flush (m : Ms w w5 lo lt cl me A L c n h sv ys wr) {e : Ending} {w1 : World} (hf : FlushPost wr (w.heap.size + 1) (w.heap.size + 1 + 1) lo (lo + 1) n h sv ys e w1) (hn : 0 < n ∨ h = 0) :
    e = .returned (.tuple #[]) ∧ ∃ sv1, Ms w w5 lo lt cl me A L c 0 0 sv1 (ys ++ flushB n h) w1 := by
  obtain ⟨rfl, sv1, g1, g2, g3, g4, g5⟩ := hf
  have h1 := m.lo_ge
  have h2 := m.lt_eq
  have h3 := m.w5_eq
  have h4 := m.size
  refine ⟨rfl, sv1, g1, (g5.block _ m.b0.lt (by simp; omega) (m.buf.row_ne m.b0 (by decide))).trans m.b0, (g5.block _ m.b3.lt (by simp; omega) (m.buf.row_ne m.b3 (by decide))).trans m.b3, g2, ?_, by omega, fun g hg => ?_,
    (g5.block _ (by omega) (by simp; omega) m.lne).trans m.row, Nat.le_trans m.size g5.size, m.bel.trans (g5.below (by simp; omega) (fun g hg => by have := (m.buf.row_lt g hg).1; omega) m.bel.size), h1, h2, h3⟩
  · by_cases hp : 0 < n
    · rw [if_pos hp] at g3; exact g3
    · rw [if_neg hp] at g3
      rcases hn with hn | hn
      · exact absurd hn hp
      · subst hn; exact g3
  · rcases g4 with e | e
    · rw [e] at hg; exact m.own g hg
    · exact .inr (by have := e g hg; omega)
end

/-- what the closure leaves alone -/
theorem FlushPost.keep {w w' : World} {B bb pb ph n h : Nat} {sv : Value} {xs : List UInt8} {e : Ending} (hf : FlushPost w B bb pb ph n h sv xs e w') {g : Nat} {t : TypeId} {cs : Array Value} (hg : Blk w g t cs) (h1 : g ≠ bb) (h2 : g ≠ pb) (h3 : g ≠ ph) (h4 : some g ≠ sv.ownBlock) : Blk w' g t cs := by
  obtain ⟨_, _, _, _, _, _, hs⟩ := hf
  exact (hs.block g hg.lt (by simp [h1, h2, h3]) h4).trans hg
/-- the two stores of a bit -/
theorem Ms.bits {w w5 : World} {lo lt : Nat} {cl me : Int} {A : Option Addr} {L c n h : Nat} {sv : Value} {ys : List UInt8} {wr : World} (m : Ms w w5 lo lt cl me A L c n h sv ys wr) (n' h' : Nat) (hh : h' ≤ 255) :
    Ms w w5 lo lt cl me A L c n' h' sv ys ((wr.setCell ⟨lo + 1, 0, none⟩ (.int .u8 h')).setCell ⟨lo, 0, none⟩ (.int .i64 n')) := by
  have h1 := m.lo_ge
  have h2 := m.lt_eq
  have h3 := m.w5_eq
  have h4 := m.size
  have k1 : ∀ g, g ≠ lo → g ≠ lo + 1 → ((wr.setCell ⟨lo + 1, 0, none⟩ (.int .u8 h')).setCell ⟨lo, 0, none⟩ (.int .i64 n')).heap[g]? = wr.heap[g]? := fun g a b =>
    (Below.heap_setCell _ ⟨lo, 0, none⟩ _ g a).trans (Below.heap_setCell _ ⟨lo + 1, 0, none⟩ _ g b)
  refine ⟨⟨m.buf.ge, m.buf.ne, (k1 _ (by omega) (by omega)).trans m.buf.blk, Own.keep m.buf.own (fun g hg => k1 g (fun e => ?_) (fun e => ?_))⟩, (k1 _ (by omega) (by omega)).trans m.b0, (k1 _ (by omega) (by omega)).trans m.b3, ?_, ?_, hh, m.own,
    (k1 _ (by omega) (by omega)).trans m.row, by simpa [World.setCell] using h4, (m.bel.setCell (by show w.heap.size ≤ lo + 1; omega) _).setCell (by show w.heap.size ≤ lo; omega) _, h1, h2, h3⟩
  · exact m.buf.row_ne m.bp (by decide) (by rw [hg, e])
  · exact m.hne (by rw [hg, e])
  · have := (m.bp.far (p := ⟨lo + 1, 0, none⟩) (by show lo ≠ lo + 1; omega) (.int .u8 h')).set_ 0 (.int .i64 n'); simpa using this
  · have := (m.bh.set_ 0 (.int .u8 h')).far (p := ⟨lo, 0, none⟩) (by show lo + 1 ≠ lo; omega) (.int .i64 n'); simpa using this

/-- the bit that the code lays beside the bits that wait -/
theorem bit_val (a : Ag) (n h : Nat) (h0 : 0 ≤ a.n) (h1 : a.n < 18446744073709551616) (hh : h ≤ 255) : bits .or .u8 (h : Int) (bits .and .u64 a.n 1 % 256 * 2 ^ n % 256) = ((orBit n h a : Nat) : Int) := by
  obtain ⟨k, m, t, fs⟩ := a
  simp only at h0 h1 ⊢
  obtain ⟨m, rfl⟩ := Int.eq_ofNat_of_zero_le h0
  have e1 : bits .and .u64 (m : Int) 1 = ((m % 2 : Nat) : Int) := by
    have := bits_and_u64_nat m 1 (by omega) (by omega)
    rw [Nat.and_one_is_mod] at this
    exact this
  have e2 : ((m % 2 : Nat) : Int) % 256 = ((m % 2 : Nat) : Int) := by omega
  have e3 : ((m % 2 : Nat) : Int) * 2 ^ n % 256 = ((((m % 2) <<< n) % 256 : Nat) : Int) := by
    rw [Nat.shiftLeft_eq]
    generalize m % 2 = q
    rw [Int.natCast_emod, Int.natCast_mul, Int.natCast_pow]
    rfl
  rw [e1, e2, e3]
  have := (bits_nat .u8 8 (by decide) (fun n a b => by rw [IntKind.wrap_u8]; omega) h (((m % 2) <<< n) % 256) (by omega) (by omega)).2
  rw [this]
  simp [orBit]

end Go.Proofs.YtabeppaehenefaaGreat
