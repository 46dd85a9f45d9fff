/-
  Values as the package has them, made out of data: simple letters.
  Values as the package has them, made out of data: tables and arrays.
  Values as the package has them, made out of data: arrays and tables as values; all of them.
  FormatTable.
-/
import Derived.Test.YtabeppaehenefaaGreatId
import Derived.Deep.QuietTactic
import Derived.BigQuiet
import Derived.Test.YtabeppaehenefaaGreatWb
namespace Go.Proofs.YtabeppaehenefaaGreat
open Go.RowKit
attribute [local go_sem ↓] Go.wp_at_zero Go.wp_at_succ

def Made (w : World) (v : V) (e : Ending) (w' : World) : Prop :=
  ∃ x, e = .returned (.tuple #[x, .bool true]) ∧ AnyV w' (fun g => w.heap.size ≤ g ∧ g < w'.heap.size) v x ∧ Below w.heap.size w w'

def MRest (n : Nat) (k : Int) : Prop := ∀ (m : Int) (f : Nat) (s : Int) (t : ByteArray) (ks : Vs) (fs : Fs) (a1 : Option Addr) (c1 : Nat) (a2 : Option Addr) (c2 : Nat) (zs ys : List Value) (p : Nat → Prop) (w : World),
  (V.mk k m f s t ks fs).ht ≤ n → (V.mk k m f s t ks fs).good → (V.mk k m f s t ks fs).ok → Rd w p a1 zs → VsC w p ks zs → ks.len ≤ c1 → Rd w p a2 ys → FsC w p fs ys → fs.len ≤ c2 → (∀ g, p g → g < w.heap.size) →
  Calls Tryz.prog 31 #[.agg (vcells k m f s t a1 ks.len c1 a2 fs.len c2).toArray] w (Made w (V.mk k m f s t ks fs))

theorem wrapi8 (m : Int) (h : -128 ≤ m ∧ m ≤ 127) : IntKind.i8.wrap m = m := by
  simp only [IntKind.wrap, IntKind.bits, IntKind.signed]; simp; omega
theorem wrapi16 (m : Int) (h : -32768 ≤ m ∧ m ≤ 32767) : IntKind.i16.wrap m = m := by
  simp only [IntKind.wrap, IntKind.bits, IntKind.signed]; simp; omega
theorem wrapi32 (m : Int) (h : -2147483648 ≤ m ∧ m ≤ 2147483647) : IntKind.i32.wrap m = m := by
  simp only [IntKind.wrap, IntKind.bits, IntKind.signed]; simp; omega
theorem wrapi64 (m : Int) (h : -9223372036854775808 ≤ m ∧ m ≤ 9223372036854775807) : IntKind.i64.wrap m = m := by
  simp only [IntKind.wrap, IntKind.bits, IntKind.signed]; simp; omega
theorem wrapu8 (m : Int) (h : 0 ≤ m ∧ m ≤ 255) : IntKind.u8.wrap m = m := by
  simp only [IntKind.wrap, IntKind.bits, IntKind.signed]; simp; omega

theorem below_drewN {B : Nat} {w w1 : World} (h : Below B w w1) (k : Nat) : Below B w (w1.drewN k) := ⟨h.os, h.tape, h.output, h.size, h.block⟩

theorem MadeS {w w' : World} {k m : Int} {f : Nat} {s : Int} {t : ByteArray} {ks : Vs} {fs : Fs} {x : Value} (h : AnyS k m f s t x) (hb : Below w.heap.size w w') : Made w (V.mk k m f s t ks fs) (.returned (.tuple #[x, .bool true])) w' :=
  ⟨x, rfl, by rw [AnyV]; exact .inl h, hb⟩

set_option maxRecDepth 100000 in
set_option maxHeartbeats 4000000 in
theorem mk_98 (n : Nat) : MRest n 98 := by
  intro m f s t ks fs a1 c1 a2 c2 zs ys p w hht hgood hok hR1 hV hc1 hR2 hF hc2 hp
  rw [V.ok] at hok
  obtain ⟨_, ok2, ok3, ok4, ok5, _, _, ok8, ok9⟩ := hok
  have hw64 := wrapi64 m ok2
  have hg0 : -128 ≤ m ∧ m ≤ 127 := by
    rw [V.good] at hgood
    rcases hgood.2 with h | ⟨h, _⟩ | ⟨h, _⟩
    · simpa [Simple] using h
    · exact absurd h (by decide)
    · exact absurd h (by decide)
  have hw0 := wrapi8 m hg0
  clear hg0
  have Hok2 := Lib.hid ok2
  have Hok4 := Lib.hid ok4
  clear hR1 hV hR2 hF hp hht ok2 ok4 hgood
  go_enter Tryz.func31, Tryz.ntmps31
  go_wp2_with fail
  go_quiet (fail)
  go_wp2_with fail
  go_ret2
  exact MadeS (by simp [AnyS]) (below_drewN ((Below.refl _ _).alloc (Nat.le_refl _) _) _)

set_option maxRecDepth 100000 in
set_option maxHeartbeats 4000000 in
theorem mk_115 (n : Nat) : MRest n 115 := by
  intro m f s t ks fs a1 c1 a2 c2 zs ys p w hht hgood hok hR1 hV hc1 hR2 hF hc2 hp
  rw [V.ok] at hok
  obtain ⟨_, ok2, ok3, ok4, ok5, _, _, ok8, ok9⟩ := hok
  have hw64 := wrapi64 m ok2
  have hg0 : -32768 ≤ m ∧ m ≤ 32767 := by
    rw [V.good] at hgood
    rcases hgood.2 with h | ⟨h, _⟩ | ⟨h, _⟩
    · simpa [Simple] using h
    · exact absurd h (by decide)
    · exact absurd h (by decide)
  have hw0 := wrapi16 m hg0
  clear hg0
  have Hok2 := Lib.hid ok2
  have Hok4 := Lib.hid ok4
  clear hR1 hV hR2 hF hp hht ok2 ok4 hgood
  go_enter Tryz.func31, Tryz.ntmps31
  go_wp2_with fail
  go_quiet (fail)
  go_wp2_with fail
  go_ret2
  exact MadeS (by simp [AnyS]) (below_drewN ((Below.refl _ _).alloc (Nat.le_refl _) _) _)

set_option maxRecDepth 100000 in
set_option maxHeartbeats 4000000 in
theorem mk_73 (n : Nat) : MRest n 73 := by
  intro m f s t ks fs a1 c1 a2 c2 zs ys p w hht hgood hok hR1 hV hc1 hR2 hF hc2 hp
  rw [V.ok] at hok
  obtain ⟨_, ok2, ok3, ok4, ok5, _, _, ok8, ok9⟩ := hok
  have hw64 := wrapi64 m ok2
  have hg0 : -2147483648 ≤ m ∧ m ≤ 2147483647 := by
    rw [V.good] at hgood
    rcases hgood.2 with h | ⟨h, _⟩ | ⟨h, _⟩
    · simpa [Simple] using h
    · exact absurd h (by decide)
    · exact absurd h (by decide)
  have hw0 := wrapi32 m hg0
  clear hg0
  have Hok2 := Lib.hid ok2
  have Hok4 := Lib.hid ok4
  clear hR1 hV hR2 hF hp hht ok2 ok4 hgood
  go_enter Tryz.func31, Tryz.ntmps31
  go_wp2_with fail
  go_quiet (fail)
  go_wp2_with fail
  go_ret2
  exact MadeS (by simp [AnyS]) (below_drewN ((Below.refl _ _).alloc (Nat.le_refl _) _) _)

set_option maxRecDepth 100000 in
set_option maxHeartbeats 4000000 in
theorem mk_66 (n : Nat) : MRest n 66 := by
  intro m f s t ks fs a1 c1 a2 c2 zs ys p w hht hgood hok hR1 hV hc1 hR2 hF hc2 hp
  rw [V.ok] at hok
  obtain ⟨_, ok2, ok3, ok4, ok5, _, _, ok8, ok9⟩ := hok
  have hw64 := wrapi64 m ok2
  have hg0 : 0 ≤ m ∧ m ≤ 255 := by
    rw [V.good] at hgood
    rcases hgood.2 with h | ⟨h, _⟩ | ⟨h, _⟩
    · simpa [Simple] using h
    · exact absurd h (by decide)
    · exact absurd h (by decide)
  have hw0 := wrapu8 m hg0
  clear hg0
  have Hok2 := Lib.hid ok2
  have Hok4 := Lib.hid ok4
  clear hR1 hV hR2 hF hp hht ok2 ok4 hgood
  go_enter Tryz.func31, Tryz.ntmps31
  go_wp2_with fail
  go_quiet (fail)
  go_wp2_with fail
  go_ret2
  exact MadeS (by simp [AnyS]) (below_drewN ((Below.refl _ _).alloc (Nat.le_refl _) _) _)

set_option maxRecDepth 100000 in
set_option maxHeartbeats 4000000 in
theorem mk_108 (n : Nat) : MRest n 108 := by
  intro m f s t ks fs a1 c1 a2 c2 zs ys p w hht hgood hok hR1 hV hc1 hR2 hF hc2 hp
  rw [V.ok] at hok
  obtain ⟨_, ok2, ok3, ok4, ok5, _, _, ok8, ok9⟩ := hok
  have hw64 := wrapi64 m ok2
  have Hok2 := Lib.hid ok2
  have Hok4 := Lib.hid ok4
  clear hR1 hV hR2 hF hp hht ok2 ok4 hgood
  go_enter Tryz.func31, Tryz.ntmps31
  go_wp2_with fail
  go_ret2
  exact MadeS (by simp [AnyS]) ((Below.refl _ _).alloc (Nat.le_refl _) _)

set_option maxRecDepth 100000 in
set_option maxHeartbeats 4000000 in
theorem mk_100 (n : Nat) : MRest n 100 := by
  intro m f s t ks fs a1 c1 a2 c2 zs ys p w hht hgood hok hR1 hV hc1 hR2 hF hc2 hp
  rw [V.ok] at hok
  obtain ⟨_, ok2, ok3, ok4, ok5, _, _, ok8, ok9⟩ := hok
  have hw64 := wrapi64 m ok2
  have Hok2 := Lib.hid ok2
  have Hok4 := Lib.hid ok4
  clear hR1 hV hR2 hF hp hht ok2 ok4 hgood
  go_enter Tryz.func31, Tryz.ntmps31
  go_wp2_with fail
  go_ret2
  exact MadeS (by simp [AnyS]) ((Below.refl _ _).alloc (Nat.le_refl _) _)

set_option maxRecDepth 100000 in
set_option maxHeartbeats 4000000 in
theorem mk_83 (n : Nat) : MRest n 83 := by
  intro m f s t ks fs a1 c1 a2 c2 zs ys p w hht hgood hok hR1 hV hc1 hR2 hF hc2 hp
  rw [V.ok] at hok
  obtain ⟨_, ok2, ok3, ok4, ok5, _, _, ok8, ok9⟩ := hok
  have hw64 := wrapi64 m ok2
  have Hok2 := Lib.hid ok2
  have Hok4 := Lib.hid ok4
  clear hR1 hV hR2 hF hp hht ok2 ok4 hgood
  go_enter Tryz.func31, Tryz.ntmps31
  go_wp2_with fail
  go_ret2
  exact MadeS (by simp [AnyS]) ((Below.refl _ _).alloc (Nat.le_refl _) _)

set_option maxRecDepth 100000 in
set_option maxHeartbeats 4000000 in
theorem mk_102 (n : Nat) : MRest n 102 := by
  intro m f s t ks fs a1 c1 a2 c2 zs ys p w hht hgood hok hR1 hV hc1 hR2 hF hc2 hp
  rw [V.ok] at hok
  obtain ⟨_, ok2, ok3, ok4, ok5, _, _, ok8, ok9⟩ := hok
  have hw64 := wrapi64 m ok2
  have hg0 : okF f := by
    rw [V.good] at hgood
    rcases hgood.2 with h | ⟨h, _⟩ | ⟨h, _⟩
    · simpa [Simple] using h
    · exact absurd h (by decide)
    · exact absurd h (by decide)
  have hcv := fun w => conv32 f hg0 w
  clear hg0
  have Hok2 := Lib.hid ok2
  have Hok4 := Lib.hid ok4
  clear hR1 hV hR2 hF hp hht ok2 ok4 hgood
  go_enter Tryz.func31, Tryz.ntmps31
  go_wp2_with fail
  go_ret2
  exact MadeS (by simp [AnyS]) ((Below.refl _ _).alloc (Nat.le_refl _) _)

set_option maxRecDepth 100000 in
set_option maxHeartbeats 4000000 in
theorem mk_86 (n : Nat) : MRest n 86 := by
  intro m f s t ks fs a1 c1 a2 c2 zs ys p w hht hgood hok hR1 hV hc1 hR2 hF hc2 hp
  rw [V.ok] at hok
  obtain ⟨_, ok2, ok3, ok4, ok5, _, _, ok8, ok9⟩ := hok
  have hw64 := wrapi64 m ok2
  have Hok2 := Lib.hid ok2
  have Hok4 := Lib.hid ok4
  clear hR1 hV hR2 hF hp hht ok2 ok4 hgood
  go_enter Tryz.func31, Tryz.ntmps31
  go_wp2_with fail
  go_quiet (fail)
  go_wp2_with fail
  go_ret2
  exact MadeS (by simp [AnyS]) (below_drewN ((Below.refl _ _).alloc (Nat.le_refl _) _) _)

set_option maxRecDepth 100000 in
set_option maxHeartbeats 4000000 in
theorem mk_68 (n : Nat) : MRest n 68 := by
  intro m f s t ks fs a1 c1 a2 c2 zs ys p w hht hgood hok hR1 hV hc1 hR2 hF hc2 hp
  rw [V.ok] at hok
  obtain ⟨_, ok2, ok3, ok4, ok5, _, _, ok8, ok9⟩ := hok
  have hw64 := wrapi64 m ok2
  have hg0 : (0 ≤ s ∧ s ≤ 255) ∧ -2147483648 ≤ m ∧ m ≤ 2147483647 := by
    rw [V.good] at hgood
    rcases hgood.2 with h | ⟨h, _⟩ | ⟨h, _⟩
    · simpa [Simple] using h
    · exact absurd h (by decide)
    · exact absurd h (by decide)
  have hw0 := wrapi32 m hg0.2
  have hw1 := wrapu8 s hg0.1
  have hw2 := wrapi64 s (by omega)
  clear hg0
  have Hok2 := Lib.hid ok2
  have Hok4 := Lib.hid ok4
  clear hR1 hV hR2 hF hp hht ok2 ok4 hgood
  go_enter Tryz.func31, Tryz.ntmps31
  go_wp2_with fail
  go_quiet (fail)
  go_wp2_with fail
  go_ret2
  exact MadeS (by simp [AnyS]) (below_drewN ((Below.refl _ _).alloc (Nat.le_refl _) _) _)

set_option maxRecDepth 100000 in
set_option maxHeartbeats 4000000 in
theorem mk_84 (n : Nat) : MRest n 84 := by
  intro m f s t ks fs a1 c1 a2 c2 zs ys p w hht hgood hok hR1 hV hc1 hR2 hF hc2 hp
  rw [V.ok] at hok
  obtain ⟨_, ok2, ok3, ok4, ok5, _, _, ok8, ok9⟩ := hok
  have hw64 := wrapi64 m ok2
  have hg0 : 0 ≤ m ∧ m < 1099511627776 := by
    rw [V.good] at hgood
    rcases hgood.2 with h | ⟨h, _⟩ | ⟨h, _⟩
    · simpa [Simple] using h
    · exact absurd h (by decide)
    · exact absurd h (by decide)
  have hu := Unix_any (w := w.alloc (.cells (vcells 84 m f s t a1 ks.len c1 a2 fs.len c2).toArray 92)) m hg0.1 hg0.2
  have HU := Lib.hid hu
  clear hg0 hu
  have Hok2 := Lib.hid ok2
  have Hok4 := Lib.hid ok4
  clear hR1 hV hR2 hF hp hht ok2 ok4 hgood
  go_enter Tryz.func31, Tryz.ntmps31
  go_wp2_with fail
  refine HU.out.mono ?_
  rintro e w1 ⟨rfl, hbel⟩
  go_wp2_with fail
  go_ret2
  exact MadeS (by simp [AnyS]) (((Below.refl _ _).alloc (Nat.le_refl _) _).trans (hbel.mono (by simp)))

set_option maxRecDepth 100000 in
set_option maxHeartbeats 4000000 in
theorem mk_116 (n : Nat) : MRest n 116 := by
  intro m f s t ks fs a1 c1 a2 c2 zs ys p w hht hgood hok hR1 hV hc1 hR2 hF hc2 hp
  rw [V.ok] at hok
  obtain ⟨_, ok2, ok3, ok4, ok5, _, _, ok8, ok9⟩ := hok
  have hg0 : m = 0 ∨ m = 1 := by
    rw [V.good] at hgood
    rcases hgood.2 with h | ⟨h, _⟩ | ⟨h, _⟩
    · simpa [Simple] using h
    · exact absurd h (by decide)
    · exact absurd h (by decide)
  have Hok4 := Lib.hid ok4
  clear hR1 hV hR2 hF hp hht ok2 ok4 hgood
  rcases hg0 with rfl | rfl
  all_goals
    go_enter Tryz.func31, Tryz.ntmps31
    go_wp2_with fail
    go_quiet (fail)
    go_wp2_with fail
    go_ret2
    exact MadeS (by simp [AnyS]) (below_drewN ((Below.refl _ _).alloc (Nat.le_refl _) _) _)

set_option maxRecDepth 100000 in
set_option maxHeartbeats 4000000 in
theorem mk_120 (n : Nat) : MRest n 120 := by
  intro m f s t ks fs a1 c1 a2 c2 zs ys p w hht hgood hok hR1 hV hc1 hR2 hF hc2 hp
  rw [V.ok] at hok
  obtain ⟨_, ok2, ok3, ok4, ok5, _, _, ok8, ok9⟩ := hok
  obtain ⟨c, w1, hrun, hc, hrb, hbel, hsz, hcell⟩ := conv_bytes (w.alloc (.cells (vcells 120 m f s t a1 ks.len c1 a2 fs.len c2).toArray 92)) t 9 Tryz.underlying9
  have hbel0 : Below w.heap.size w w1 := ((Below.refl _ _).alloc (Nat.le_refl _) _).trans (hbel.mono (by simp))
  have hh : (w.alloc (.cells (vcells 120 m f s t a1 ks.len c1 a2 fs.len c2).toArray 92)).heap.size = w.heap.size + 1 := by simp
  have hcell2 := hcell
  rw [hh] at hcell2
  have hrd : Rd w1 (fun g => w.heap.size ≤ g ∧ g < w1.heap.size) (some ⟨w.heap.size + 1, 0, none⟩) (bcells t.data.toList) := by
    intro _
    refine ⟨_, 0, rfl, ⟨by omega, by rw [hsz, hh]; omega⟩, fun j u hu => ?_⟩
    have hj : j < t.size := by
      have := (List.getElem?_eq_some_iff.1 hu).1
      rwa [bcells_length, size_toList] at this
    have hj' : j < t.data.size := hj
    rw [Nat.zero_add, hcell2 j hj, ← hu]
    have hg : t.data[j]? = some t.data[j] := Array.getElem?_eq_getElem hj'
    simp [bcells, List.getD, hg]
  have Hok2 := Lib.hid ok2
  have Hok4 := Lib.hid ok4
  have HS := Lib.hid hsz
  have HC := Lib.hid hcell
  have HRd := Lib.hid hrd
  have HRb := Lib.hid hrb
  clear hR1 hV hR2 hF hp hht ok2 ok4 hgood hsz hcell hcell2 hh hrd hrb
  go_enter Tryz.func31, Tryz.ntmps31
  go_wp2_with fail
  go_ret2
  refine ⟨_, rfl, ?_, hbel0⟩
  rw [AnyV]
  exact .inr (.inl ⟨rfl, _, c, rfl, hc, HRd.out⟩)

end Go.Proofs.YtabeppaehenefaaGreat

namespace Go.Proofs.YtabeppaehenefaaGreat
open Go.RowKit Go.Maps
attribute [local go_sem ↓] Go.wp_at_zero Go.wp_at_succ

def MVal (n : Nat) : Prop := ∀ k : Int, MRest n k

def MadeT (w : World) (fs : Fs) (e : Ending) (w' : World) : Prop :=
  ∃ b, e = .returned (.tuple #[.map (some b), .bool true]) ∧ TabV w' (fun g => w.heap.size ≤ g ∧ g < w'.heap.size) fs b ∧ Below w.heap.size w w'

def MTab (n : Nat) : Prop := ∀ (fs : Fs) (prev : Option ByteArray) (A : Option Addr) (c : Nat) (ys : List Value) (p : Nat → Prop) (w : World),
  fs.ht ≤ n → fs.good prev → fs.ok → fs.len ≤ 140737488355328 → Rd w p A ys → FsC w p fs ys → fs.len ≤ c → (∀ g, p g → g < w.heap.size) →
  Calls Tryz.prog 17 #[.slice A fs.len c] w (MadeT w fs)

theorem info20 : (Tryz.prog.info? 20).map (fun i => (i.zero, i.size, i.bytes)) = some (some .nilIface, 1, 16) := by kernel_rfl

theorem AnyV.one {w : World} {p : Nat → Prop} {v : V} {x : Value} (h : AnyV w p v x) : x.oneCell' = true := by
  obtain ⟨k, n, f, s, t, ks, fs⟩ := v
  rw [AnyV] at h
  rcases h with h | ⟨_, A, c, rfl, _⟩ | ⟨_, A, c, xs, rfl, _⟩ | ⟨_, b, D, rfl, _⟩
  · unfold AnyS at h
    rcases h with ⟨_, b, _, rfl⟩ | ⟨_, rfl⟩ | ⟨_, rfl⟩ | ⟨_, rfl⟩ | ⟨_, rfl⟩ | ⟨_, rfl⟩ | ⟨_, rfl⟩ | ⟨_, rfl⟩ | ⟨_, rfl⟩ | ⟨_, rfl⟩ | ⟨_, rfl⟩ | ⟨_, rfl⟩ <;> rfl
  all_goals rfl

theorem Fs.names_app : ∀ a b : Fs, (a.app b).names = a.names ++ b.names
  | .nil, b => rfl
  | .cons n v r, b => by rw [Fs.app, Fs.names, Fs.names, Fs.names_app r b]; rfl

theorem EntV.put {w : World} {p : Nat → Prop} {name : List UInt8} {d : DataW Value} : ∀ {fs : Fs} {D : DataW Value}, EntV w p fs D → name ∉ fs.names → EntV w p fs (D.put (.string name) d)
  | .nil, D, _, _ => by rw [EntV]; trivial
  | .cons nm v r, D, h, hn => by
    have ih : ∀ D, EntV w p r D → name ∉ r.names → EntV w p r (D.put (.string name) d) := fun D => EntV.put
    rw [Fs.names] at hn
    rw [EntV] at h ⊢
    obtain ⟨⟨x, hx, hv⟩, hr⟩ := h
    refine ⟨⟨x, fun z => ?_, hv⟩, ih _ hr (fun e => hn (List.mem_cons_of_mem _ e))⟩
    rw [atKey_put_other (fun e => hn (by injection e with e; rw [e]; exact List.mem_cons_self))]
    exact hx z
theorem EntV.snoc {w : World} {p : Nat → Prop} {name : ByteArray} {v : V} {x : Value} : ∀ {fs : Fs} {D : DataW Value}, EntV w p fs D → (∀ z, D.atKey (.string name.data.toList) z = .held x) → AnyV w p v x → EntV w p (fs.app (.cons name v .nil)) D
  | .nil, D, _, hx, hv => by rw [Fs.app, EntV]; exact ⟨⟨x, hx, hv⟩, by rw [EntV]; trivial⟩
  | .cons nm u r, D, h, hx, hv => by
    have ih : ∀ D, EntV w p r D → (∀ z, D.atKey (.string name.data.toList) z = .held x) → AnyV w p v x → EntV w p (r.app (.cons name v .nil)) D := fun D => EntV.snoc
    rw [EntV] at h
    rw [Fs.app, EntV]
    exact ⟨h.1, ih _ h.2 hx hv⟩

theorem keyLit (l : List UInt8) : WideAt.IsKeyLit (.string l) := by simp [WideAt.IsKeyLit]

set_option maxRecDepth 100000 in
set_option maxHeartbeats 8000000 in
theorem make_table (n : Nat) (hV : MVal n) : MTab n := by
  intro fs prev A c ys p w hht hgood hok hlen hR hF hc hp
  have hns := (names_grow fs prev hgood).1
  have HV := Lib.hid hV
  have HG := Lib.hid hgood
  have Hok := Lib.hid hok
  have HR := Lib.hid hR
  have HF := Lib.hid hF
  have HP := Lib.hid hp
  have HNS := Lib.hid hns
  have hmm := @run_makeMap Tryz.prog
  clear hV hgood hok hR hF hp hns
  go_enter Tryz.func17, Tryz.ntmps17
  go_wp2_with fail
  have hm0 : MapOf (w.alloc (.map #[] 0)) w.heap.size 0 [] (.map []) := ⟨World.ownsMap_made _ _ _ _, fun x => by simp [Maps.has]⟩
  have hbel : Below w.heap.size w (w.alloc (.map #[] 0)) := (Below.refl _ _).alloc (Nat.le_refl _) _
  clear hmm
  generalize w.alloc (.map #[] 0) = w0 at hm0 hbel ⊢
  go_loopw [14] (fun i wr => ∃ (k : Nat) (rest : Fs) (prev' : Option ByteArray) (dn : Fs) (D : DataW Value), i = .int .i64 k ∧ rest.len + k = fs.len ∧ rest.ok ∧ rest.good prev' ∧ rest.ht ≤ n ∧ FsC w p rest (ys.drop (k * 8)) ∧ fs = dn.app rest ∧
      MapOf wr w.heap.size k dn.names D ∧ EntV wr (fun g => w.heap.size < g ∧ g < wr.heap.size) dn D ∧ Below w.heap.size w wr) (fun i _ => fs.len - (intOf i).toNat)
  case atStart => exact ⟨0, fs, prev, .nil, .map [], rfl, rfl, Hok.out, HG.out, hht, by simpa using HF.out, rfl, hm0, by rw [EntV]; trivial, hbel⟩
  case round =>
    obtain ⟨k, rest, prev', dn, D, rfl, hrest, hrok, hrg, hrh, hrF, hfs, hM, hE, hbel'⟩ := hrel
    have Hfs := Lib.hid hfs
    clear hfs hm0 hbel
    have hbw : w.heap.size < wr.heap.size := hM.1.lt
    cases rest with
    | nil =>
      rw [Fs.len] at hrest
      have hkl : k = fs.len := by omega
      have hdn : fs = dn := by rw [Hfs.out, Fs.app_nil]
      have HDn := Lib.hid hdn
      have HK := Lib.hid hkl
      have HM := Lib.hid hM
      have HE := Lib.hid hE
      clear hdn hM hE
      have hlt : ¬ (k < fs.len) := by omega
      clear hkl hrest
      go_wp2_with fail
      go_ret2
      refine ⟨_, rfl, ⟨D, ⟨Nat.le_refl _, hbw⟩, ?_, ?_⟩, hbel'⟩
      · rw [← HK.out]
        have := HM.out
        rwa [← HDn.out] at this
      · have := HE.out.keep (w1 := wr) (q := fun g => w.heap.size ≤ g ∧ g < wr.heap.size) (fun _ _ => rfl) (fun g hg => ⟨Nat.le_of_lt hg.1, hg.2⟩)
        rwa [← HDn.out] at this
    | cons name v q =>
      obtain ⟨vk, vn, vf, vs, vt, vks, vfs⟩ := v
      rw [Fs.len] at hrest
      obtain ⟨b, off, a1, c1, a2, c2, us, zs, rfl, hpb, e0, e1, e2, e3, e4, e5, e6, e7, x1, x2, x3, x4, x5, x6, x7⟩ := FsC.at_ HR.out hrF
      have hkeep : ∀ g, p g → wr.heap[g]? = w.heap[g]? := fun g hg => hbel'.block g (HP.out g hg)
      have hb' := hkeep b hpb
      rw [← World.cell?_of_block (w := w) (w' := wr) (a := ⟨b, off + k * 8, none⟩) hb'] at e0
      rw [← World.cell?_of_block (w := w) (w' := wr) (a := ⟨b, off + k * 8 + 1, none⟩) hb'] at e1
      rw [← World.cell?_of_block (w := w) (w' := wr) (a := ⟨b, off + k * 8 + 2, none⟩) hb'] at e2
      rw [← World.cell?_of_block (w := w) (w' := wr) (a := ⟨b, off + k * 8 + 3, none⟩) hb'] at e3
      rw [← World.cell?_of_block (w := w) (w' := wr) (a := ⟨b, off + k * 8 + 4, none⟩) hb'] at e4
      rw [← World.cell?_of_block (w := w) (w' := wr) (a := ⟨b, off + k * 8 + 5, none⟩) hb'] at e5
      rw [← World.cell?_of_block (w := w) (w' := wr) (a := ⟨b, off + k * 8 + 6, none⟩) hb'] at e6
      rw [← World.cell?_of_block (w := w) (w' := wr) (a := ⟨b, off + k * 8 + 7, none⟩) hb'] at e7
      have hk0 : (0 : Int) ≤ (k : Int) := by omega
      have hk1 : (k : Int) < (fs.len : Int) := by omega
      rw [Fs.ok] at hrok
      obtain ⟨o1, o2, o3⟩ := hrok
      rw [Fs.good] at hrg
      obtain ⟨g1, g2, g3, g4⟩ := hrg
      have hht2 : (V.mk vk vn vf vs vt vks vfs).ht ≤ n ∧ q.ht ≤ n := by
        rw [Fs.ht] at hrh; omega
      have hnew : name.data.toList ∉ dn.names := by
        have h := HNS.out
        rw [Hfs.out, Fs.names_app, Fs.names, List.pairwise_append] at h
        intro hm
        exact List.lt_irrefl _ (h.2.2 _ hm _ List.mem_cons_self)
      have HNew := Lib.hid hnew
      have HM := Lib.hid hM
      have HE := Lib.hid hE
      clear hnew hM hE
      go_upto_region 5 with fail
      have hx1 := Blk.new wr 94 (Value.string name :: vcells vk vn vf vs vt a1 vks.len c1 a2 vfs.len c2).toArray
      have hbel1 : Below wr.heap.size wr (wr.alloc (.cells (Value.string name :: vcells vk vn vf vs vt a1 vks.len c1 a2 vfs.len c2).toArray 94)) := (Below.refl _ _).alloc (Nat.le_refl _) _
      have hs1 : (wr.alloc (.cells (Value.string name :: vcells vk vn vf vs vt a1 vks.len c1 a2 vfs.len c2).toArray 94)).heap.size = wr.heap.size + 1 := by simp
      generalize wr.alloc (.cells (Value.string name :: vcells vk vn vf vs vt a1 vks.len c1 a2 vfs.len c2).toArray 94) = wx at hx1 hbel1 hs1 ⊢
      have y1 : wx.cell? ⟨wr.heap.size, 1, none⟩ = some (.int .u8 vk) := by rw [hx1.cell]; rfl
      have y2 : wx.cell? ⟨wr.heap.size, 2, none⟩ = some (.int .i64 vn) := by rw [hx1.cell]; rfl
      have y3 : wx.cell? ⟨wr.heap.size, 3, none⟩ = some (.float .f64 vf) := by rw [hx1.cell]; rfl
      have y4 : wx.cell? ⟨wr.heap.size, 4, none⟩ = some (.int .i64 vs) := by rw [hx1.cell]; rfl
      have y5 : wx.cell? ⟨wr.heap.size, 5, none⟩ = some (.string vt) := by rw [hx1.cell]; rfl
      have y6 : wx.cell? ⟨wr.heap.size, 6, none⟩ = some (.slice a1 vks.len c1) := by rw [hx1.cell]; rfl
      have y7 : wx.cell? ⟨wr.heap.size, 7, none⟩ = some (.slice a2 vfs.len c2) := by rw [hx1.cell]; rfl
      have hkx : ∀ g, p g → wx.heap[g]? = w.heap[g]? := fun g hg => (hbel1.block g (by have := HP.out g hg; omega)).trans (hkeep g hg)
      have hcall := HV.out vk vn vf vs vt vks vfs a1 c1 a2 c2 us zs p wx hht2.1 g3 o2 (x1.keep hkx) (x2.keep hkx) x3 (x4.keep hkx) (x5.keep hkx) x6 (fun g hg => by have := HP.out g hg; omega)
      have HCall := Lib.hid hcall
      have HS1 := Lib.hid hs1
      clear e0 e1 e2 e3 e4 e5 e6 e7 hcall hkx x1 x2 x4 x5 hkeep hb' hs1
      go_wp2_with fail
      refine HCall.out.mono ?_
      rintro e w2 ⟨x, rfl, hxv, hbel2⟩
      have hx2 := hx1.below hbel2 (by have := HS1.out; omega)
      have z0 : w2.cell? ⟨wr.heap.size, 0, none⟩ = some (.string name) := by rw [hx2.cell]; rfl
      have hM2 : MapOf w2 w.heap.size k dn.names D := HM.out.keep ((hbel2.block _ (by have := HS1.out; omega)).trans (hbel1.block _ hbw))
      have hsz2 := hbel2.size
      have hkey := Go.WideMaps.keyOf_string_mk (P := Tryz.prog) Tryz.underlying9 (s := name) (by unfold maxLen; omega)
      obtain ⟨v0, ps0, hlook, _⟩ := hM2.1.look_ok law9 under53 (zero20 w2) (zd := .held .nilIface) (zp := []) rfl hkey
      have hhas : Maps.has D (.string name.data.toList) = false := by
        cases h : Maps.has D (.string name.data.toList)
        · rfl
        · exact absurd ((hM2.2 _).1 h) HNew.out
      rw [hhas] at hlook
      have HM2 := Lib.hid hM2
      have HXV := Lib.hid hxv
      have HKey := Lib.hid hkey
      have hkmax : k < maxLen := by unfold maxLen; omega
      clear y1 y2 y3 y4 y5 y6 y7 hhas hM2 hxv hkey
      go_wp2_with (at_mapUpdate; refine wpList_mapUpdate_own _ rfl _ _ _ 56 rfl 9 20 law9 under53 anyElem w.heap.size k D rfl HM2.out.1 hkmax _ _ _ rfl rfl HKey.out (.held x) [] rfl ?_)
      intro w3 hown3 hg3
      have hs3 := hg3.size
      have hkd : ∀ g, g ≠ w.heap.size → g < wr.heap.size → w3.heap[g]? = wr.heap[g]? := fun g hne hg =>
        ((hg3.block g (by have := HS1.out; omega) (fun e => hne (by injection e))).trans (hbel2.block g (by have := HS1.out; omega))).trans (hbel1.block g hg)
      have hE3 : EntV w3 (fun g => w.heap.size < g ∧ g < w3.heap.size) dn D := HE.out.keep (fun g hg => hkd g (by omega) hg.2) (fun g hg => ⟨hg.1, by have := HS1.out; omega⟩)
      have hxv3 : AnyV w3 (fun g => w.heap.size < g ∧ g < w3.heap.size) (.mk vk vn vf vs vt vks vfs) x :=
        HXV.out.keep (fun g hg => hg3.block g hg.2 (fun e => by injection e with e; have := HS1.out; omega)) (fun g hg => ⟨by have := HS1.out; omega, by omega⟩)
      have hbel3 : Below w.heap.size w w3 := (((hbel'.trans (hbel1.mono hbel'.size)).trans (hbel2.mono (by have := HS1.out; omega)))).grown hg3 (by have := HS1.out; omega) (fun j hj => by injection hj with hj; omega)
      have hM3 : MapOf w3 w.heap.size (k + 1) (dn.app (.cons name (.mk vk vn vf vs vt vks vfs) .nil)).names (D.put (.string name.data.toList) (.held x)) := by
        refine ⟨hown3, fun y => ?_⟩
        rw [Fs.names_app, List.mem_append]
        by_cases hy : y = name.data.toList
        · subst hy
          rw [has_put_same HM2.out.1.isMap (keyLit _)]
          simp [Fs.names]
        · rw [has_put_other (fun e => hy (by injection e)), HM2.out.2 y]
          simp [Fs.names, hy]
      have hE4 : EntV w3 (fun g => w.heap.size < g ∧ g < w3.heap.size) (dn.app (.cons name (.mk vk vn vf vs vt vks vfs) .nil)) (D.put (.string name.data.toList) (.held x)) :=
        (hE3.put HNew.out).snoc (fun z => atKey_put_same HM2.out.1.isMap (keyLit _) _ z) hxv3
      have HM3 := Lib.hid hM3
      have HE4 := Lib.hid hE4
      clear hM3 hE4 hE3 hxv3 hkd hown3 hlook z0 hs3
      go_wp2
      refine ⟨⟨k + 1, q, some name, dn.app (.cons name (.mk vk vn vf vs vt vks vfs) .nil), _, by go_num, by omega, o3, g4, hht2.2, ?_, ?_, HM3.out, HE4.out, hbel3⟩, by simp [intOf]; omega⟩
      · rw [show (k + 1) * 8 = k * 8 + 8 by omega]
        exact x7
      · rw [Fs.app_assoc]
        exact Hfs.out

end Go.Proofs.YtabeppaehenefaaGreat

namespace Go.Proofs.YtabeppaehenefaaGreat
open Go.RowKit Go.Maps
attribute [local go_sem ↓] Go.wp_at_zero Go.wp_at_succ

theorem own_keep2 {w w1 : World} {base : Nat} {e : TypeId} {size n : Nat} {v : Value} {xs : List Value} (h : w.ownsRow base e size v n xs) (hk : ∀ g, v.ownBlock = some g → w1.heap[g]? = w.heap[g]?) : w1.ownsRow base e size v n xs := by
  refine ⟨h.1, ?_⟩
  rcases h.2 with hn | ⟨g, cap, cur, rfl, hbg, hg, rest⟩
  · exact .inl hn
  · exact .inr ⟨g, cap, cur, rfl, hbg, (hk g rfl).trans hg, rest⟩
theorem AnyV.shape {w : World} {p : Nat → Prop} {v : V} {x : Value} (h : AnyV w p v x) : (∃ T u, x = .iface T u) ∨ x = .nilIface := by
  obtain ⟨k, n, f, s, t, ks, fs⟩ := v
  rw [AnyV] at h
  rcases h with h | ⟨_, A, c, rfl, _⟩ | ⟨_, A, c, xs, rfl, _⟩ | ⟨_, b, D, rfl, _⟩
  · unfold AnyS at h
    rcases h with ⟨_, b, _, rfl⟩ | ⟨_, rfl⟩ | ⟨_, rfl⟩ | ⟨_, rfl⟩ | ⟨_, rfl⟩ | ⟨_, rfl⟩ | ⟨_, rfl⟩ | ⟨_, rfl⟩ | ⟨_, rfl⟩ | ⟨_, rfl⟩ | ⟨_, rfl⟩ | ⟨_, rfl⟩
    all_goals first | exact .inr rfl | exact .inl ⟨_, _, rfl⟩
  all_goals exact .inl ⟨_, _, rfl⟩

set_option maxRecDepth 100000 in
set_option maxHeartbeats 4000000 in
theorem mk_70 (n : Nat) (hT : MTab n) : MRest (n + 1) 70 := by
  intro m f s t ks fs a1 c1 a2 c2 zs ys p w hht hgood hok hR1 hV hc1 hR2 hF hc2 hp
  rw [V.ok] at hok
  obtain ⟨_, ok2, ok3, ok4, ok5, _, ok7, ok8, ok9⟩ := hok
  have hg : fs.good none := by
    rw [V.good] at hgood
    rcases hgood.2 with h | ⟨h, _⟩ | ⟨_, h, _⟩
    · simp [Simple] at h
    · exact absurd h (by decide)
    · exact h
  rw [V.ht] at hht
  have hbel : Below w.heap.size w (w.alloc (.cells (vcells 70 m f s t a1 ks.len c1 a2 fs.len c2).toArray 92)) := (Below.refl _ _).alloc (Nat.le_refl _) _
  have hk : ∀ g, p g → (w.alloc (.cells (vcells 70 m f s t a1 ks.len c1 a2 fs.len c2).toArray 92)).heap[g]? = w.heap[g]? := fun g hg => hbel.block g (hp g hg)
  have hs : (w.alloc (.cells (vcells 70 m f s t a1 ks.len c1 a2 fs.len c2).toArray 92)).heap.size = w.heap.size + 1 := by simp
  have hcall := hT fs none a2 c2 ys p (w.alloc (.cells (vcells 70 m f s t a1 ks.len c1 a2 fs.len c2).toArray 92)) (by omega) hg ok7 ok9 (hR2.keep hk) (hF.keep hk) hc2 (fun g hg => by have := hp g hg; omega)
  have HC := Lib.hid hcall
  have HS := Lib.hid hs
  have Hok2 := Lib.hid ok2
  have Hok4 := Lib.hid ok4
  have Hok7 := Lib.hid ok7
  clear hT hgood hg hR1 hV hR2 hF hp hk hs hcall hht ok2 ok4 ok7
  go_enter Tryz.func31, Tryz.ntmps31
  go_wp2_with fail
  refine HC.out.mono ?_
  rintro e w1 ⟨b, rfl, hTab, hbel1⟩
  have hs1 := hbel1.size
  have HTab := Lib.hid hTab
  clear hTab
  go_wp2_with fail
  go_ret2
  refine ⟨_, rfl, ?_, hbel.trans (hbel1.mono (by have := HS.out; omega))⟩
  obtain ⟨D, hb, hm, he⟩ := HTab.out.keep (w1 := w1) (q := fun g => w.heap.size ≤ g ∧ g < w1.heap.size) (fun _ _ => rfl) (fun g hg => ⟨by have := HS.out; omega, hg.2⟩)
  rw [AnyV]
  exact .inr (.inr (.inr ⟨rfl, b, D, rfl, hb, hm, he⟩))

set_option maxRecDepth 100000 in
set_option maxHeartbeats 8000000 in
theorem mk_65 (n : Nat) (hV' : MVal n) : MRest (n + 1) 65 := by
  intro m f s t ks fs a1 c1 a2 c2 zs ys p w hht hgood hok hR1 hV hc1 hR2 hF hc2 hp
  rw [V.ok] at hok
  obtain ⟨_, ok2, ok3, ok4, ok5, ok6, ok7, ok8, ok9⟩ := hok
  have hg2 : ks.good ∧ ks.enc.length ≤ 20000 := by
    rw [V.good] at hgood
    rcases hgood.2 with h | ⟨_, h⟩ | ⟨h, _⟩
    · simp [Simple] at h
    · exact h
    · exact absurd h (by decide)
  obtain ⟨hg, hen⟩ := hg2
  have hl20 : ks.len ≤ 20000 := Nat.le_trans ks.len_enc hen
  clear hen
  rw [V.ht] at hht
  have hht1 : ks.ht ≤ n := by omega
  obtain ⟨i0, hi, hz0, hz1, hz2⟩ := info_parts info20
  have HV := Lib.hid hV'
  have HG := Lib.hid hg
  have Hok2 := Lib.hid ok2
  have Hok4 := Lib.hid ok4
  have Hok6 := Lib.hid ok6
  have HR := Lib.hid hR1
  have HVs := Lib.hid hV
  have HP := Lib.hid hp
  clear hV' hgood hg hR1 hV hR2 hF hp ok2 ok4 ok6 ok7 hht
  go_enter Tryz.func31, Tryz.ntmps31
  go_wp2_with fail
  have hown : ((w.alloc (.cells (vcells 65 m f s t a1 ks.len c1 a2 fs.len c2).toArray 92)).alloc (.cells #[] 20)).ownsRow w.heap.size 20 1 (.slice (some ⟨w.heap.size + 1, 0, none⟩) 0 0) 0 [] := by
    have := World.ownsRow_lit (base := w.heap.size) (e := 20) (size := 1) (w.alloc (.cells (vcells 65 m f s t a1 ks.len c1 a2 fs.len c2).toArray 92)) #[] 0 (by simp) (by unfold maxLen; omega) rfl
    simpa using this
  have hbel : Below w.heap.size w ((w.alloc (.cells (vcells 65 m f s t a1 ks.len c1 a2 fs.len c2).toArray 92)).alloc (.cells #[] 20)) := ((Below.refl _ _).alloc (Nat.le_refl _) _).alloc (by simp) _
  generalize (w.alloc (.cells (vcells 65 m f s t a1 ks.len c1 a2 fs.len c2).toArray 92)).alloc (.cells #[] 20) = w0 at hown hbel ⊢
  go_loopw [170, 4] (fun i v wr => ∃ (k : Nat) (rest : Vs) (dn : Vs) (xs : List Value), i = .int .i64 k ∧ rest.len + k = ks.len ∧ dn.len = k ∧ rest.ok ∧ rest.good ∧ rest.ht ≤ n ∧ VsC w p rest (zs.drop (k * 7)) ∧ ks = dn.app rest ∧
      wr.ownsRow w.heap.size 20 1 v k xs ∧ AnyVs wr (fun g => w.heap.size ≤ g ∧ g < wr.heap.size ∧ some g ≠ v.ownBlock) dn xs ∧ Below w.heap.size w wr) (fun i _ _ => ks.len - (intOf i).toNat)
  case atStart => exact ⟨0, ks, .nil, [], rfl, rfl, rfl, Hok6.out, HG.out, hht1, by simpa using HVs.out, rfl, hown, by rw [AnyVs], hbel⟩
  case round =>
    obtain ⟨k, rest, dn, xs, rfl, hrest, hdk, hrok, hrg, hrh, hrV, hks, hrow, hA, hbel'⟩ := hrel
    have Hks := Lib.hid hks
    have HDk := Lib.hid hdk
    clear hks hdk hown hbel
    obtain ⟨A, c, rfl⟩ := own_shape hrow
    cases rest with
    | nil =>
      rw [Vs.len] at hrest
      have hkl : k = ks.len := by omega
      have hdn : ks = dn := by rw [Hks.out, Vs.app_nil]
      have HDn := Lib.hid hdn
      have HK := Lib.hid hkl
      have HRow := Lib.hid hrow
      have HA := Lib.hid hA
      clear hdn hrow hA
      have hlt : ¬ (k < ks.len) := by omega
      clear hkl hrest
      go_wp2_with fail
      go_ret2
      refine ⟨_, rfl, ?_, hbel'⟩
      obtain ⟨hRd, hcap⟩ := Rd.of_own (p := fun g => w.heap.size ≤ g ∧ g < wr.heap.size) HRow.out (fun g _ h1 h2 => ⟨h1, h2⟩)
      have hAs := HA.out.keep (w1 := wr) (q := fun g => w.heap.size ≤ g ∧ g < wr.heap.size) (fun _ _ => rfl) (fun g hg => ⟨hg.1, hg.2.1⟩)
      rw [← HDn.out] at hAs
      rw [AnyV]
      have hK := HK.out
      subst hK
      exact .inr (.inr (.inl ⟨rfl, A, c, xs, rfl, hcap, hRd, hAs⟩))
    | cons v q =>
      obtain ⟨vk, vn, vf, vs, vt, vks, vfs⟩ := v
      rw [Vs.len] at hrest
      obtain ⟨b, off, b1, d1, b2, d2, us, zs2, rfl, hpb, e0, e1, e2, e3, e4, e5, e6, x1, x2, x3, x4, x5, x6, x7⟩ := VsC.at_ HR.out hrV
      have hkeep : ∀ g, p g → wr.heap[g]? = w.heap[g]? := fun g hg => hbel'.block g (HP.out g hg)
      have hb' := hkeep b hpb
      rw [← World.cell?_of_block (w := w) (w' := wr) (a := ⟨b, off + k * 7, none⟩) hb'] at e0
      rw [← World.cell?_of_block (w := w) (w' := wr) (a := ⟨b, off + k * 7 + 1, none⟩) hb'] at e1
      rw [← World.cell?_of_block (w := w) (w' := wr) (a := ⟨b, off + k * 7 + 2, none⟩) hb'] at e2
      rw [← World.cell?_of_block (w := w) (w' := wr) (a := ⟨b, off + k * 7 + 3, none⟩) hb'] at e3
      rw [← World.cell?_of_block (w := w) (w' := wr) (a := ⟨b, off + k * 7 + 4, none⟩) hb'] at e4
      rw [← World.cell?_of_block (w := w) (w' := wr) (a := ⟨b, off + k * 7 + 5, none⟩) hb'] at e5
      rw [← World.cell?_of_block (w := w) (w' := wr) (a := ⟨b, off + k * 7 + 6, none⟩) hb'] at e6
      have hk0 : (0 : Int) ≤ (k : Int) := by omega
      have hk1 : (k : Int) < (ks.len : Int) := by omega
      rw [Vs.ok] at hrok
      obtain ⟨o2, o3⟩ := hrok
      rw [Vs.good] at hrg
      obtain ⟨g3, g4⟩ := hrg
      have hht2 : (V.mk vk vn vf vs vt vks vfs).ht ≤ n ∧ q.ht ≤ n := by
        rw [Vs.ht] at hrh; omega
      have HRow := Lib.hid hrow
      have HA := Lib.hid hA
      clear hrow hA
      go_upto_region 35 with fail
      have hx1 := Blk.new wr 92 (vcells vk vn vf vs vt b1 vks.len d1 b2 vfs.len d2).toArray
      have hbel1 : Below wr.heap.size wr (wr.alloc (.cells (vcells vk vn vf vs vt b1 vks.len d1 b2 vfs.len d2).toArray 92)) := (Below.refl _ _).alloc (Nat.le_refl _) _
      have hs1 : (wr.alloc (.cells (vcells vk vn vf vs vt b1 vks.len d1 b2 vfs.len d2).toArray 92)).heap.size = wr.heap.size + 1 := by simp
      generalize wr.alloc (.cells (vcells vk vn vf vs vt b1 vks.len d1 b2 vfs.len d2).toArray 92) = wx at hx1 hbel1 hs1 ⊢
      have y0 : wx.cell? ⟨wr.heap.size, 0, none⟩ = some (.int .u8 vk) := by rw [hx1.cell]; rfl
      have y1 : wx.cell? ⟨wr.heap.size, 1, none⟩ = some (.int .i64 vn) := by rw [hx1.cell]; rfl
      have y2 : wx.cell? ⟨wr.heap.size, 2, none⟩ = some (.float .f64 vf) := by rw [hx1.cell]; rfl
      have y3 : wx.cell? ⟨wr.heap.size, 3, none⟩ = some (.int .i64 vs) := by rw [hx1.cell]; rfl
      have y4 : wx.cell? ⟨wr.heap.size, 4, none⟩ = some (.string vt) := by rw [hx1.cell]; rfl
      have y5 : wx.cell? ⟨wr.heap.size, 5, none⟩ = some (.slice b1 vks.len d1) := by rw [hx1.cell]; rfl
      have y6 : wx.cell? ⟨wr.heap.size, 6, none⟩ = some (.slice b2 vfs.len d2) := by rw [hx1.cell]; rfl
      have hkx : ∀ g, p g → wx.heap[g]? = w.heap[g]? := fun g hg => (hbel1.block g (by have := HP.out g hg; have := hbel'.size; omega)).trans (hkeep g hg)
      have hcall := HV.out vk vn vf vs vt vks vfs b1 d1 b2 d2 us zs2 p wx hht2.1 g3 o2 (x1.keep hkx) (x2.keep hkx) x3 (x4.keep hkx) (x5.keep hkx) x6 (fun g hg => by have := HP.out g hg; have := hbel'.size; omega)
      have HCall := Lib.hid hcall
      have HS1 := Lib.hid hs1
      clear e0 e1 e2 e3 e4 e5 e6 hcall hkx x1 x2 x4 x5 hkeep hb' hs1
      go_wp2_with fail
      refine HCall.out.mono ?_
      rintro e w2 ⟨x, rfl, hxv, hbel2⟩
      have hsz2 := hbel2.size
      have hone := hxv.one
      have hrow2 := (own_keep2 HRow.out (fun g hg => (hbel2.block g (by have := (HRow.out.lt g hg).2; have := HS1.out; omega)).trans (hbel1.block g (HRow.out.lt g hg).2))).alloc (.cells #[x] 20)
      have hsrc : Src Tryz.prog 1 295 (.slice (some ⟨w2.heap.size, 0, none⟩) 1 1) 1 [x] (w2.alloc (.cells #[x] 20)) :=
        Src.ofSlice _ Tryz.underlying295 ⟨w2.heap.size, 0, none⟩ 1 1 _ rfl (by have := World.news_of_block (Blk.new w2 20 #[x]); simpa using this) (by intro u hu; simp at hu; subst hu; exact hone)
      have HXV := Lib.hid hxv
      have HRow2 := Lib.hid hrow2
      have HSrc := Lib.hid hsrc
      clear y0 y1 y2 y3 y4 y5 y6 hxv hrow2 hsrc hone
      have hshape := HXV.out.shape
      rcases hshape with ⟨T0, u0, rfl⟩ | rfl
      all_goals
        go_wp2_with (at_builtin; refine wpList_append_src _ rfl (.tmp 181) (.tmp 183) 295 295 rfl w.heap.size 20 i0 .nilIface 1 16 Tryz.underlying295 hi hz0 hz1 hz2 rfl _ k xs rfl HRow2.out _ 1 _ rfl HSrc.out (by unfold maxLen; omega) (by omega) (by have := HS1.out; have := hbel'.size; simp; omega) ?_)
        intro v' w3 hown3 hg3 hat3
        have hs3 := hg3.size
        have hs3' : w2.heap.size + 1 ≤ w3.heap.size := by simpa using hs3
        have hrl := HRow.out.lt
        have hloc : ∀ g, g < w2.heap.size → some g ≠ (Value.slice A k c).ownBlock → some g ≠ v'.ownBlock := fun g hg hne e => by
          rcases hat3 with h | h
          · rw [h] at e; exact hne e
          · rw [h] at e; injection e with e; omega
        have hkeepA : ∀ g, g < w2.heap.size → some g ≠ (Value.slice A k c).ownBlock → w3.heap[g]? = w2.heap[g]? := fun g hg hne =>
          (hg3.block g (by simp; omega) hne).trans (Below.heap_alloc _ _ _ hg)
        have hA3 : AnyVs w3 (fun g => w.heap.size ≤ g ∧ g < w3.heap.size ∧ some g ≠ v'.ownBlock) dn xs := HA.out.keep
          (fun g hg => ((hkeepA g (by have := HS1.out; omega) hg.2.2).trans (hbel2.block g (by have := HS1.out; omega))).trans (hbel1.block g hg.2.1))
          (fun g hg => ⟨hg.1, by have := HS1.out; omega, hloc g (by have := HS1.out; omega) hg.2.2⟩)
        have hne2 : ∀ g, wx.heap.size ≤ g → some g ≠ (Value.slice A k c).ownBlock := fun g hg e => by
          have := (hrl g e.symm).2
          have := HS1.out
          omega
        have hxv3 : AnyV w3 (fun g => w.heap.size ≤ g ∧ g < w3.heap.size ∧ some g ≠ v'.ownBlock) (.mk vk vn vf vs vt vks vfs) _ := HXV.out.keep
          (fun g hg => hkeepA g hg.2 (hne2 g hg.1))
          (fun g hg => ⟨by have := HS1.out; have := hbel'.size; omega, by omega, hloc g hg.2 (hne2 g hg.1)⟩)
        have hbel3 : Below w.heap.size w w3 := (((hbel'.trans (hbel1.mono hbel'.size)).trans (hbel2.mono (by have := HS1.out; have := hbel'.size; omega))).alloc (by have := HS1.out; have := hbel'.size; omega) _).grown hg3 (by have := HS1.out; have := hbel'.size; simp; omega) (fun j hj => (hrl j hj).1)
        have HA3 := Lib.hid (hA3.snoc hxv3)
        have HOwn := Lib.hid hown3
        clear hA3 hxv3 hloc hkeepA hne2 hs3 hown3 hrl
        obtain ⟨A', c', rfl⟩ := own_shape HOwn.out
        go_wp2
        refine ⟨⟨k + 1, q, dn.app (.cons (.mk vk vn vf vs vt vks vfs) .nil), _, by go_num, by omega, by rw [Vs.len_app, HDk.out]; rfl, o3, g4, hht2.2, ?_, ?_, HOwn.out, HA3.out, hbel3⟩, by simp [intOf]; omega⟩
        · rw [show (k + 1) * 7 = k * 7 + 7 by omega]
          exact x7
        · rw [Vs.app_assoc]
          exact Hks.out

theorem make_all : ∀ n : Nat, MVal n ∧ MTab n
  | 0 => by
    have h : MVal 0 := by
      intro k m f s t ks fs a1 c1 a2 c2 zs ys p w hht
      rw [V.ht] at hht
      omega
    exact ⟨h, make_table 0 h⟩
  | n + 1 => by
    have ih := make_all n
    have h : MVal (n + 1) := by
      intro k m f s t ks fs a1 c1 a2 c2 zs ys p w hht hgood
      have hg := hgood
      rw [V.good] at hg
      rcases hg.2 with hs | ⟨rfl, _⟩ | ⟨rfl, _⟩
      · unfold Simple at hs
        rcases hs with ⟨rfl, _⟩ | ⟨rfl, _⟩ | ⟨rfl, _⟩ | ⟨rfl, _⟩ | ⟨rfl, _⟩ | rfl | ⟨rfl, _⟩ | ⟨rfl, _⟩ | ⟨rfl, _⟩ | ⟨rfl, _⟩ | rfl | rfl | rfl
        · exact mk_116 (n + 1) m f s t ks fs a1 c1 a2 c2 zs ys p w hht hgood
        · exact mk_98 (n + 1) m f s t ks fs a1 c1 a2 c2 zs ys p w hht hgood
        · exact mk_66 (n + 1) m f s t ks fs a1 c1 a2 c2 zs ys p w hht hgood
        · exact mk_115 (n + 1) m f s t ks fs a1 c1 a2 c2 zs ys p w hht hgood
        · exact mk_73 (n + 1) m f s t ks fs a1 c1 a2 c2 zs ys p w hht hgood
        · exact mk_108 (n + 1) m f s t ks fs a1 c1 a2 c2 zs ys p w hht hgood
        · exact mk_84 (n + 1) m f s t ks fs a1 c1 a2 c2 zs ys p w hht hgood
        · exact mk_102 (n + 1) m f s t ks fs a1 c1 a2 c2 zs ys p w hht hgood
        · exact mk_100 (n + 1) m f s t ks fs a1 c1 a2 c2 zs ys p w hht hgood
        · exact mk_68 (n + 1) m f s t ks fs a1 c1 a2 c2 zs ys p w hht hgood
        · exact mk_83 (n + 1) m f s t ks fs a1 c1 a2 c2 zs ys p w hht hgood
        · exact mk_120 (n + 1) m f s t ks fs a1 c1 a2 c2 zs ys p w hht hgood
        · exact mk_86 (n + 1) m f s t ks fs a1 c1 a2 c2 zs ys p w hht hgood
      · exact mk_65 n ih.1 m f s t ks fs a1 c1 a2 c2 zs ys p w hht hgood
      · exact mk_70 n ih.2 m f s t ks fs a1 c1 a2 c2 zs ys p w hht hgood
    exact ⟨h, make_table (n + 1) h⟩

end Go.Proofs.YtabeppaehenefaaGreat

namespace Go.Proofs.YtabeppaehenefaaGreat
open Go.RowKit Go.Maps

/-- table -/
theorem table_made {fs : Fs} {prev : Option ByteArray} {A : Option Addr} {c : Nat} {ys : List Value} {p : Nat → Prop} {w : World} (hgood : fs.good prev) (hok : fs.ok) (hlen : fs.len ≤ 140737488355328) (hR : Rd w p A ys) (hF : FsC w p fs ys) (hc : fs.len ≤ c) (hp : ∀ g, p g → g < w.heap.size) :
    Calls Tryz.prog 17 #[.slice A fs.len c] w (MadeT w fs) := (make_all fs.ht).2 fs prev A c ys p w (Nat.le_refl _) hgood hok hlen hR hF hc hp

end Go.Proofs.YtabeppaehenefaaGreat
