/-
  FnMethod: ZZMethod's message at each method: what it writes, part 1 (printed by a program).
  FnMethod: ZZMethod's message at each method: what it writes, part 2 (printed by a program).
-/
import Derived.Test.YtabeppaehenefaaGreatQc
import Derived.Test.YtabeppaehenefaaGreatNw1
import Derived.Test.YtabeppaehenefaaGreatNw2
import Derived.Test.YtabeppaehenefaaGreatOz1
import Derived.Test.YtabeppaehenefaaGreatOz2
import Derived.Test.YtabeppaehenefaaGreatNw3
import Derived.Test.YtabeppaehenefaaGreatOz3
namespace Go.Proofs.YtabeppaehenefaaGreat
open Go.RowKit
set_option linter.unusedVariables false

set_option maxRecDepth 100000 in
set_option maxHeartbeats 2000000 in
theorem zm_connectionStart {w : World} {gs : List Ag} {H : Nat} {sv : Value} {cs : List Value} {q : Nat → Prop} (hpr : properF [111, 111, 116, 76, 76] gs) (hok : ∀ a ∈ gs, a.ok ∧ a.fs.good none) (hown : w.ownsRow H 60 4 sv gs.length cs) (hz : ZgsC w q gs cs) (hq : ∀ g, q g → g < w.heap.size) :
    Calls Tryz.prog 18 #[.int .u16 10, .int .u16 10, sv] w (ZPost w 10 10 (argsB [111, 111, 116, 76, 76] gs 0 0)) := by
  obtain ⟨a0, g1, rfl, f0, hpr⟩ := properF_hi (by decide) hpr
  replace f0 : a0.k = 0 ∧ a0.n < 256 := f0
  obtain ⟨a1, g2, rfl, f1, hpr⟩ := properF_hi (by decide) hpr
  replace f1 : a1.k = 0 ∧ a1.n < 256 := f1
  obtain ⟨a2, g3, rfl, f2, hpr⟩ := properF_hi (by decide) hpr
  replace f2 : a2.k = 7 ∧ a2.fs.enc.length ≤ 20000 := f2
  obtain ⟨a3, g4, rfl, f3, hpr⟩ := properF_hi (by decide) hpr
  replace f3 : a3.k = 5 ∧ a3.t.size ≤ 1000 := f3
  obtain ⟨a4, g5, rfl, f4, hpr⟩ := properF_hi (by decide) hpr
  replace f4 : a4.k = 5 ∧ a4.t.size ≤ 1000 := f4
  obtain rfl : g5 = [] := hpr
  obtain ⟨o0, d0⟩ := hok a0 (by simp)
  obtain ⟨o1, d1⟩ := hok a1 (by simp)
  obtain ⟨o2, d2⟩ := hok a2 (by simp)
  obtain ⟨o3, d3⟩ := hok a3 (by simp)
  obtain ⟨o4, d4⟩ := hok a4 (by simp)
  obtain ⟨b0, cs0, rfl, T0, hz⟩ := hz
  obtain ⟨b1, cs1, rfl, T1, hz⟩ := hz
  obtain ⟨b2, cs2, rfl, T2, hz⟩ := hz
  obtain ⟨b3, cs3, rfl, T3, hz⟩ := hz
  obtain ⟨b4, cs4, rfl, T4, hz⟩ := hz
  obtain rfl : cs4 = [] := hz
  obtain ⟨k0, n0, t0, s0⟩ := a0
  obtain ⟨n0, rfl⟩ := Int.eq_ofNat_of_zero_le o0.2.1.1
  obtain ⟨rfl, e0⟩ : k0 = 0 ∧ _ := f0
  simp only at e0 d0 T0
  obtain ⟨k1, n1, t1, s1⟩ := a1
  obtain ⟨n1, rfl⟩ := Int.eq_ofNat_of_zero_le o1.2.1.1
  obtain ⟨rfl, e1⟩ : k1 = 0 ∧ _ := f1
  simp only at e1 d1 T1
  obtain ⟨k2, n2, t2, s2⟩ := a2
  obtain ⟨n2, rfl⟩ := Int.eq_ofNat_of_zero_le o2.2.1.1
  obtain ⟨rfl, e2⟩ : k2 = 7 ∧ _ := f2
  simp only at e2 d2 T2
  obtain ⟨k3, n3, t3, s3⟩ := a3
  obtain ⟨n3, rfl⟩ := Int.eq_ofNat_of_zero_le o3.2.1.1
  obtain ⟨rfl, e3⟩ : k3 = 5 ∧ _ := f3
  simp only at e3 d3 T3
  obtain ⟨k4, n4, t4, s4⟩ := a4
  obtain ⟨n4, rfl⟩ := Int.eq_ofNat_of_zero_le o4.2.1.1
  obtain ⟨rfl, e4⟩ : k4 = 5 ∧ _ := f4
  simp only at e4 d4 T4
  obtain ⟨r, c, rfl, hr, hc⟩ := own_cells hown (by simp)
  refine (zz_connectionStart n0 n1 n2 n3 n4 t0 t1 t2 t3 t4 b0 b1 b2 b3 b4 (by omega) (by omega) hr hc).mono ?_
  rintro e w1 ⟨g, rfl, hg, hblk, hbel⟩
  refine ⟨101, g, 70, 73, rfl, hbel, ⟨fun w => by kernel_rfl, fun w => by kernel_rfl, fun w => by kernel_rfl, fun v w => by kernel_rfl, fun w' => calls_straight Tryz.func70 rfl (by kernel_rfl), fun w' B bb sv' xs h0 hB hb hBs hx => ?_⟩⟩
  have hblk' := hblk.below h0 hblk.lt
  have hcall := wr_connectionStart (g := g) [] n0 n1 b2 s2 t3 t4 hblk' (by have := hblk.lt; omega) hb hBs hx (by omega) (by omega) (T2.keep (q := fun g => g < B) (fun x hx => (h0.block x (by have := hq x hx; have := hbel.size; omega)).trans (hbel.block x (hq x hx))) (fun x hx => by have := hq x hx; have := hbel.size; omega)) d2 o2.2.2.2.1 e2 e3 e4
  refine (Eq.subst (motive := fun z => Calls _ _ _ _ (Gave _ _ _ _ _ z)) ?_ hcall)
  clear hcall hblk' hbel h0 hb hblk hB hBs hx hg hown hr hc
  rw [argsB_high (by decide) (by decide), argsB_high (by decide) (by decide), argsB_high (by decide) (by decide), argsB_high (by decide) (by decide), argsB_high (by decide) (by decide)]
  simp [argB, flushB, argsB_nil]

set_option maxRecDepth 100000 in
set_option maxHeartbeats 2000000 in
theorem zm_connectionStartOk {w : World} {gs : List Ag} {H : Nat} {sv : Value} {cs : List Value} {q : Nat → Prop} (hpr : properF [116, 83, 76, 83] gs) (hok : ∀ a ∈ gs, a.ok ∧ a.fs.good none) (hown : w.ownsRow H 60 4 sv gs.length cs) (hz : ZgsC w q gs cs) (hq : ∀ g, q g → g < w.heap.size) :
    Calls Tryz.prog 18 #[.int .u16 10, .int .u16 11, sv] w (ZPost w 10 11 (argsB [116, 83, 76, 83] gs 0 0)) := by
  obtain ⟨a0, g1, rfl, f0, hpr⟩ := properF_hi (by decide) hpr
  replace f0 : a0.k = 7 ∧ a0.fs.enc.length ≤ 20000 := f0
  obtain ⟨a1, g2, rfl, f1, hpr⟩ := properF_hi (by decide) hpr
  replace f1 : a1.k = 4 ∧ a1.t.size ≤ 255 := f1
  obtain ⟨a2, g3, rfl, f2, hpr⟩ := properF_hi (by decide) hpr
  replace f2 : a2.k = 5 ∧ a2.t.size ≤ 1000 := f2
  obtain ⟨a3, g4, rfl, f3, hpr⟩ := properF_hi (by decide) hpr
  replace f3 : a3.k = 4 ∧ a3.t.size ≤ 255 := f3
  obtain rfl : g4 = [] := hpr
  obtain ⟨o0, d0⟩ := hok a0 (by simp)
  obtain ⟨o1, d1⟩ := hok a1 (by simp)
  obtain ⟨o2, d2⟩ := hok a2 (by simp)
  obtain ⟨o3, d3⟩ := hok a3 (by simp)
  obtain ⟨b0, cs0, rfl, T0, hz⟩ := hz
  obtain ⟨b1, cs1, rfl, T1, hz⟩ := hz
  obtain ⟨b2, cs2, rfl, T2, hz⟩ := hz
  obtain ⟨b3, cs3, rfl, T3, hz⟩ := hz
  obtain rfl : cs3 = [] := hz
  obtain ⟨k0, n0, t0, s0⟩ := a0
  obtain ⟨n0, rfl⟩ := Int.eq_ofNat_of_zero_le o0.2.1.1
  obtain ⟨rfl, e0⟩ : k0 = 7 ∧ _ := f0
  simp only at e0 d0 T0
  obtain ⟨k1, n1, t1, s1⟩ := a1
  obtain ⟨n1, rfl⟩ := Int.eq_ofNat_of_zero_le o1.2.1.1
  obtain ⟨rfl, e1⟩ : k1 = 4 ∧ _ := f1
  simp only at e1 d1 T1
  obtain ⟨k2, n2, t2, s2⟩ := a2
  obtain ⟨n2, rfl⟩ := Int.eq_ofNat_of_zero_le o2.2.1.1
  obtain ⟨rfl, e2⟩ : k2 = 5 ∧ _ := f2
  simp only at e2 d2 T2
  obtain ⟨k3, n3, t3, s3⟩ := a3
  obtain ⟨n3, rfl⟩ := Int.eq_ofNat_of_zero_le o3.2.1.1
  obtain ⟨rfl, e3⟩ : k3 = 4 ∧ _ := f3
  simp only at e3 d3 T3
  obtain ⟨r, c, rfl, hr, hc⟩ := own_cells hown (by simp)
  refine (zz_connectionStartOk n0 n1 n2 n3 t0 t1 t2 t3 b0 b1 b2 b3  hr hc).mono ?_
  rintro e w1 ⟨g, rfl, hg, hblk, hbel⟩
  refine ⟨104, g, 106, 109, rfl, hbel, ⟨fun w => by kernel_rfl, fun w => by kernel_rfl, fun w => by kernel_rfl, fun v w => by kernel_rfl, fun w' => calls_straight Tryz.func106 rfl (by kernel_rfl), fun w' B bb sv' xs h0 hB hb hBs hx => ?_⟩⟩
  have hblk' := hblk.below h0 hblk.lt
  have hcall := wr_connectionStartOk (g := g) [] b0 s0 t1 t2 t3 hblk' (by have := hblk.lt; omega) hb hBs hx (T0.keep (q := fun g => g < B) (fun x hx => (h0.block x (by have := hq x hx; have := hbel.size; omega)).trans (hbel.block x (hq x hx))) (fun x hx => by have := hq x hx; have := hbel.size; omega)) d0 o0.2.2.2.1 e0 e1 e2 e3
  refine (Eq.subst (motive := fun z => Calls _ _ _ _ (Gave _ _ _ _ _ z)) ?_ hcall)
  clear hcall hblk' hbel h0 hb hblk hB hBs hx hg hown hr hc
  rw [argsB_high (by decide) (by decide), argsB_high (by decide) (by decide), argsB_high (by decide) (by decide), argsB_high (by decide) (by decide)]
  simp [argB, flushB, argsB_nil]

set_option maxRecDepth 100000 in
set_option maxHeartbeats 2000000 in
theorem zm_connectionSecure {w : World} {gs : List Ag} {H : Nat} {sv : Value} {cs : List Value} {q : Nat → Prop} (hpr : properF [76] gs) (hok : ∀ a ∈ gs, a.ok ∧ a.fs.good none) (hown : w.ownsRow H 60 4 sv gs.length cs) (hz : ZgsC w q gs cs) (hq : ∀ g, q g → g < w.heap.size) :
    Calls Tryz.prog 18 #[.int .u16 10, .int .u16 20, sv] w (ZPost w 10 20 (argsB [76] gs 0 0)) := by
  obtain ⟨a0, g1, rfl, f0, hpr⟩ := properF_hi (by decide) hpr
  replace f0 : a0.k = 5 ∧ a0.t.size ≤ 1000 := f0
  obtain rfl : g1 = [] := hpr
  obtain ⟨o0, d0⟩ := hok a0 (by simp)
  obtain ⟨b0, cs0, rfl, T0, hz⟩ := hz
  obtain rfl : cs0 = [] := hz
  obtain ⟨k0, n0, t0, s0⟩ := a0
  obtain ⟨n0, rfl⟩ := Int.eq_ofNat_of_zero_le o0.2.1.1
  obtain ⟨rfl, e0⟩ : k0 = 5 ∧ _ := f0
  simp only at e0 d0 T0
  obtain ⟨r, c, rfl, hr, hc⟩ := own_cells hown (by simp)
  refine (zz_connectionSecure n0 t0 b0  hr hc).mono ?_
  rintro e w1 ⟨g, rfl, hg, hblk, hbel⟩
  refine ⟨107, g, 110, 113, rfl, hbel, ⟨fun w => by kernel_rfl, fun w => by kernel_rfl, fun w => by kernel_rfl, fun v w => by kernel_rfl, fun w' => calls_straight Tryz.func110 rfl (by kernel_rfl), fun w' B bb sv' xs h0 hB hb hBs hx => ?_⟩⟩
  have hblk' := hblk.below h0 hblk.lt
  have hcall := wr_connectionSecure (g := g) [] t0 hblk' (by have := hblk.lt; omega) hb hBs hx e0
  refine (Eq.subst (motive := fun z => Calls _ _ _ _ (Gave _ _ _ _ _ z)) ?_ hcall)
  clear hcall hblk' hbel h0 hb hblk hB hBs hx hg hown hr hc
  rw [argsB_high (by decide) (by decide)]
  simp [argB, flushB, argsB_nil]

set_option maxRecDepth 100000 in
set_option maxHeartbeats 2000000 in
theorem zm_connectionSecureOk {w : World} {gs : List Ag} {H : Nat} {sv : Value} {cs : List Value} {q : Nat → Prop} (hpr : properF [76] gs) (hok : ∀ a ∈ gs, a.ok ∧ a.fs.good none) (hown : w.ownsRow H 60 4 sv gs.length cs) (hz : ZgsC w q gs cs) (hq : ∀ g, q g → g < w.heap.size) :
    Calls Tryz.prog 18 #[.int .u16 10, .int .u16 21, sv] w (ZPost w 10 21 (argsB [76] gs 0 0)) := by
  obtain ⟨a0, g1, rfl, f0, hpr⟩ := properF_hi (by decide) hpr
  replace f0 : a0.k = 5 ∧ a0.t.size ≤ 1000 := f0
  obtain rfl : g1 = [] := hpr
  obtain ⟨o0, d0⟩ := hok a0 (by simp)
  obtain ⟨b0, cs0, rfl, T0, hz⟩ := hz
  obtain rfl : cs0 = [] := hz
  obtain ⟨k0, n0, t0, s0⟩ := a0
  obtain ⟨n0, rfl⟩ := Int.eq_ofNat_of_zero_le o0.2.1.1
  obtain ⟨rfl, e0⟩ : k0 = 5 ∧ _ := f0
  simp only at e0 d0 T0
  obtain ⟨r, c, rfl, hr, hc⟩ := own_cells hown (by simp)
  refine (zz_connectionSecureOk n0 t0 b0  hr hc).mono ?_
  rintro e w1 ⟨g, rfl, hg, hblk, hbel⟩
  refine ⟨110, g, 114, 117, rfl, hbel, ⟨fun w => by kernel_rfl, fun w => by kernel_rfl, fun w => by kernel_rfl, fun v w => by kernel_rfl, fun w' => calls_straight Tryz.func114 rfl (by kernel_rfl), fun w' B bb sv' xs h0 hB hb hBs hx => ?_⟩⟩
  have hblk' := hblk.below h0 hblk.lt
  have hcall := wr_connectionSecureOk (g := g) [] t0 hblk' (by have := hblk.lt; omega) hb hBs hx e0
  refine (Eq.subst (motive := fun z => Calls _ _ _ _ (Gave _ _ _ _ _ z)) ?_ hcall)
  clear hcall hblk' hbel h0 hb hblk hB hBs hx hg hown hr hc
  rw [argsB_high (by decide) (by decide)]
  simp [argB, flushB, argsB_nil]

set_option maxRecDepth 100000 in
set_option maxHeartbeats 2000000 in
theorem zm_connectionTune {w : World} {gs : List Ag} {H : Nat} {sv : Value} {cs : List Value} {q : Nat → Prop} (hpr : properF [115, 108, 115] gs) (hok : ∀ a ∈ gs, a.ok ∧ a.fs.good none) (hown : w.ownsRow H 60 4 sv gs.length cs) (hz : ZgsC w q gs cs) (hq : ∀ g, q g → g < w.heap.size) :
    Calls Tryz.prog 18 #[.int .u16 10, .int .u16 30, sv] w (ZPost w 10 30 (argsB [115, 108, 115] gs 0 0)) := by
  obtain ⟨a0, g1, rfl, f0, hpr⟩ := properF_hi (by decide) hpr
  replace f0 : a0.k = 1 ∧ a0.n < 65536 := f0
  obtain ⟨a1, g2, rfl, f1, hpr⟩ := properF_hi (by decide) hpr
  replace f1 : a1.k = 2 ∧ a1.n < 4294967296 := f1
  obtain ⟨a2, g3, rfl, f2, hpr⟩ := properF_hi (by decide) hpr
  replace f2 : a2.k = 1 ∧ a2.n < 65536 := f2
  obtain rfl : g3 = [] := hpr
  obtain ⟨o0, d0⟩ := hok a0 (by simp)
  obtain ⟨o1, d1⟩ := hok a1 (by simp)
  obtain ⟨o2, d2⟩ := hok a2 (by simp)
  obtain ⟨b0, cs0, rfl, T0, hz⟩ := hz
  obtain ⟨b1, cs1, rfl, T1, hz⟩ := hz
  obtain ⟨b2, cs2, rfl, T2, hz⟩ := hz
  obtain rfl : cs2 = [] := hz
  obtain ⟨k0, n0, t0, s0⟩ := a0
  obtain ⟨n0, rfl⟩ := Int.eq_ofNat_of_zero_le o0.2.1.1
  obtain ⟨rfl, e0⟩ : k0 = 1 ∧ _ := f0
  simp only at e0 d0 T0
  obtain ⟨k1, n1, t1, s1⟩ := a1
  obtain ⟨n1, rfl⟩ := Int.eq_ofNat_of_zero_le o1.2.1.1
  obtain ⟨rfl, e1⟩ : k1 = 2 ∧ _ := f1
  simp only at e1 d1 T1
  obtain ⟨k2, n2, t2, s2⟩ := a2
  obtain ⟨n2, rfl⟩ := Int.eq_ofNat_of_zero_le o2.2.1.1
  obtain ⟨rfl, e2⟩ : k2 = 1 ∧ _ := f2
  simp only at e2 d2 T2
  obtain ⟨r, c, rfl, hr, hc⟩ := own_cells hown (by simp)
  refine (zz_connectionTune n0 n1 n2 t0 t1 t2 b0 b1 b2 (by omega) (by omega) (by omega) hr hc).mono ?_
  rintro e w1 ⟨g, rfl, hg, hblk, hbel⟩
  refine ⟨113, g, 118, 121, rfl, hbel, ⟨fun w => by kernel_rfl, fun w => by kernel_rfl, fun w => by kernel_rfl, fun v w => by kernel_rfl, fun w' => calls_straight Tryz.func118 rfl (by kernel_rfl), fun w' B bb sv' xs h0 hB hb hBs hx => ?_⟩⟩
  have hblk' := hblk.below h0 hblk.lt
  have hcall := wr_connectionTune (g := g) [] n0 n1 n2 hblk' (by have := hblk.lt; omega) hb hBs hx (by omega) (by omega) (by omega)
  refine (Eq.subst (motive := fun z => Calls _ _ _ _ (Gave _ _ _ _ _ z)) ?_ hcall)
  clear hcall hblk' hbel h0 hb hblk hB hBs hx hg hown hr hc
  rw [argsB_high (by decide) (by decide), argsB_high (by decide) (by decide), argsB_high (by decide) (by decide)]
  simp [argB, flushB, argsB_nil]

set_option maxRecDepth 100000 in
set_option maxHeartbeats 2000000 in
theorem zm_connectionTuneOk {w : World} {gs : List Ag} {H : Nat} {sv : Value} {cs : List Value} {q : Nat → Prop} (hpr : properF [115, 108, 115] gs) (hok : ∀ a ∈ gs, a.ok ∧ a.fs.good none) (hown : w.ownsRow H 60 4 sv gs.length cs) (hz : ZgsC w q gs cs) (hq : ∀ g, q g → g < w.heap.size) :
    Calls Tryz.prog 18 #[.int .u16 10, .int .u16 31, sv] w (ZPost w 10 31 (argsB [115, 108, 115] gs 0 0)) := by
  obtain ⟨a0, g1, rfl, f0, hpr⟩ := properF_hi (by decide) hpr
  replace f0 : a0.k = 1 ∧ a0.n < 65536 := f0
  obtain ⟨a1, g2, rfl, f1, hpr⟩ := properF_hi (by decide) hpr
  replace f1 : a1.k = 2 ∧ a1.n < 4294967296 := f1
  obtain ⟨a2, g3, rfl, f2, hpr⟩ := properF_hi (by decide) hpr
  replace f2 : a2.k = 1 ∧ a2.n < 65536 := f2
  obtain rfl : g3 = [] := hpr
  obtain ⟨o0, d0⟩ := hok a0 (by simp)
  obtain ⟨o1, d1⟩ := hok a1 (by simp)
  obtain ⟨o2, d2⟩ := hok a2 (by simp)
  obtain ⟨b0, cs0, rfl, T0, hz⟩ := hz
  obtain ⟨b1, cs1, rfl, T1, hz⟩ := hz
  obtain ⟨b2, cs2, rfl, T2, hz⟩ := hz
  obtain rfl : cs2 = [] := hz
  obtain ⟨k0, n0, t0, s0⟩ := a0
  obtain ⟨n0, rfl⟩ := Int.eq_ofNat_of_zero_le o0.2.1.1
  obtain ⟨rfl, e0⟩ : k0 = 1 ∧ _ := f0
  simp only at e0 d0 T0
  obtain ⟨k1, n1, t1, s1⟩ := a1
  obtain ⟨n1, rfl⟩ := Int.eq_ofNat_of_zero_le o1.2.1.1
  obtain ⟨rfl, e1⟩ : k1 = 2 ∧ _ := f1
  simp only at e1 d1 T1
  obtain ⟨k2, n2, t2, s2⟩ := a2
  obtain ⟨n2, rfl⟩ := Int.eq_ofNat_of_zero_le o2.2.1.1
  obtain ⟨rfl, e2⟩ : k2 = 1 ∧ _ := f2
  simp only at e2 d2 T2
  obtain ⟨r, c, rfl, hr, hc⟩ := own_cells hown (by simp)
  refine (zz_connectionTuneOk n0 n1 n2 t0 t1 t2 b0 b1 b2 (by omega) (by omega) (by omega) hr hc).mono ?_
  rintro e w1 ⟨g, rfl, hg, hblk, hbel⟩
  refine ⟨117, g, 122, 125, rfl, hbel, ⟨fun w => by kernel_rfl, fun w => by kernel_rfl, fun w => by kernel_rfl, fun v w => by kernel_rfl, fun w' => calls_straight Tryz.func122 rfl (by kernel_rfl), fun w' B bb sv' xs h0 hB hb hBs hx => ?_⟩⟩
  have hblk' := hblk.below h0 hblk.lt
  have hcall := wr_connectionTuneOk (g := g) [] n0 n1 n2 hblk' (by have := hblk.lt; omega) hb hBs hx (by omega) (by omega) (by omega)
  refine (Eq.subst (motive := fun z => Calls _ _ _ _ (Gave _ _ _ _ _ z)) ?_ hcall)
  clear hcall hblk' hbel h0 hb hblk hB hBs hx hg hown hr hc
  rw [argsB_high (by decide) (by decide), argsB_high (by decide) (by decide), argsB_high (by decide) (by decide)]
  simp [argB, flushB, argsB_nil]

set_option maxRecDepth 100000 in
set_option maxHeartbeats 2000000 in
theorem zm_connectionOpen {w : World} {gs : List Ag} {H : Nat} {sv : Value} {cs : List Value} {q : Nat → Prop} (hpr : properF [83, 50, 51] gs) (hok : ∀ a ∈ gs, a.ok ∧ a.fs.good none) (hown : w.ownsRow H 60 4 sv gs.length cs) (hz : ZgsC w q gs cs) (hq : ∀ g, q g → g < w.heap.size) :
    Calls Tryz.prog 18 #[.int .u16 10, .int .u16 40, sv] w (ZPost w 10 40 (argsB [83, 50, 51] gs 0 0)) := by
  obtain ⟨a0, g1, rfl, f0, hpr⟩ := properF_hi (by decide) hpr
  replace f0 : a0.k = 4 ∧ a0.t.size ≤ 255 := f0
  replace hpr := properF_lo (by decide) hpr
  replace hpr := properF_lo (by decide) hpr
  obtain rfl : g1 = [] := hpr
  obtain ⟨o0, d0⟩ := hok a0 (by simp)
  obtain ⟨b0, cs0, rfl, T0, hz⟩ := hz
  obtain rfl : cs0 = [] := hz
  obtain ⟨k0, n0, t0, s0⟩ := a0
  obtain ⟨n0, rfl⟩ := Int.eq_ofNat_of_zero_le o0.2.1.1
  obtain ⟨rfl, e0⟩ : k0 = 4 ∧ _ := f0
  simp only at e0 d0 T0
  obtain ⟨r, c, rfl, hr, hc⟩ := own_cells hown (by simp)
  refine (zz_connectionOpen n0 t0 b0  hr hc).mono ?_
  rintro e w1 ⟨g, rfl, hg, hblk, hbel⟩
  refine ⟨119, g, 126, 129, rfl, hbel, ⟨fun w => by kernel_rfl, fun w => by kernel_rfl, fun w => by kernel_rfl, fun v w => by kernel_rfl, fun w' => calls_straight Tryz.func126 rfl (by kernel_rfl), fun w' B bb sv' xs h0 hB hb hBs hx => ?_⟩⟩
  have hblk' := hblk.below h0 hblk.lt
  have hcall := wr_connectionOpen (g := g) [] t0 hblk' (by have := hblk.lt; omega) hb hBs hx e0
  refine (Eq.subst (motive := fun z => Calls _ _ _ _ (Gave _ _ _ _ _ z)) ?_ hcall)
  clear hcall hblk' hbel h0 hb hblk hB hBs hx hg hown hr hc
  rw [argsB_high (by decide) (by decide), argsB_low (by decide) (by decide), argsB_51 rfl]
  simp [argB, flushB, argsB_nil, Ag.none, sz_none, orBit, bitv, be1]

set_option maxRecDepth 100000 in
set_option maxHeartbeats 2000000 in
theorem zm_connectionOpenOk {w : World} {gs : List Ag} {H : Nat} {sv : Value} {cs : List Value} {q : Nat → Prop} (hpr : properF [50] gs) (hok : ∀ a ∈ gs, a.ok ∧ a.fs.good none) (hown : w.ownsRow H 60 4 sv gs.length cs) (hz : ZgsC w q gs cs) (hq : ∀ g, q g → g < w.heap.size) :
    Calls Tryz.prog 18 #[.int .u16 10, .int .u16 41, sv] w (ZPost w 10 41 (argsB [50] gs 0 0)) := by
  replace hpr := properF_lo (by decide) hpr
  obtain rfl : gs = [] := hpr
  obtain rfl : cs = [] := hz
  obtain ⟨A, c, rfl⟩ := own_shape hown
  refine (zz_connectionOpenOk A c).mono ?_
  rintro e w1 ⟨g, rfl, hg, hblk, hbel⟩
  refine ⟨122, g, 130, 133, rfl, hbel, ⟨fun w => by kernel_rfl, fun w => by kernel_rfl, fun w => by kernel_rfl, fun v w => by kernel_rfl, fun w' => calls_straight Tryz.func130 rfl (by kernel_rfl), fun w' B bb sv' xs h0 hB hb hBs hx => ?_⟩⟩
  have hblk' := hblk.below h0 hblk.lt
  have hcall := wr_connectionOpenOk (g := g) []  hblk' (by have := hblk.lt; omega) hb hBs hx 
  refine (Eq.subst (motive := fun z => Calls _ _ _ _ (Gave _ _ _ _ _ z)) ?_ hcall)
  clear hcall hblk' hbel h0 hb hblk hB hBs hx hg hown
  rw [argsB_low (by decide) (by decide)]
  simp [argB, flushB, argsB_nil, Ag.none, sz_none]

set_option maxRecDepth 100000 in
set_option maxHeartbeats 2000000 in
theorem zm_connectionClose {w : World} {gs : List Ag} {H : Nat} {sv : Value} {cs : List Value} {q : Nat → Prop} (hpr : properF [115, 83, 115, 115] gs) (hok : ∀ a ∈ gs, a.ok ∧ a.fs.good none) (hown : w.ownsRow H 60 4 sv gs.length cs) (hz : ZgsC w q gs cs) (hq : ∀ g, q g → g < w.heap.size) :
    Calls Tryz.prog 18 #[.int .u16 10, .int .u16 50, sv] w (ZPost w 10 50 (argsB [115, 83, 115, 115] gs 0 0)) := by
  obtain ⟨a0, g1, rfl, f0, hpr⟩ := properF_hi (by decide) hpr
  replace f0 : a0.k = 1 ∧ a0.n < 65536 := f0
  obtain ⟨a1, g2, rfl, f1, hpr⟩ := properF_hi (by decide) hpr
  replace f1 : a1.k = 4 ∧ a1.t.size ≤ 255 := f1
  obtain ⟨a2, g3, rfl, f2, hpr⟩ := properF_hi (by decide) hpr
  replace f2 : a2.k = 1 ∧ a2.n < 65536 := f2
  obtain ⟨a3, g4, rfl, f3, hpr⟩ := properF_hi (by decide) hpr
  replace f3 : a3.k = 1 ∧ a3.n < 65536 := f3
  obtain rfl : g4 = [] := hpr
  obtain ⟨o0, d0⟩ := hok a0 (by simp)
  obtain ⟨o1, d1⟩ := hok a1 (by simp)
  obtain ⟨o2, d2⟩ := hok a2 (by simp)
  obtain ⟨o3, d3⟩ := hok a3 (by simp)
  obtain ⟨b0, cs0, rfl, T0, hz⟩ := hz
  obtain ⟨b1, cs1, rfl, T1, hz⟩ := hz
  obtain ⟨b2, cs2, rfl, T2, hz⟩ := hz
  obtain ⟨b3, cs3, rfl, T3, hz⟩ := hz
  obtain rfl : cs3 = [] := hz
  obtain ⟨k0, n0, t0, s0⟩ := a0
  obtain ⟨n0, rfl⟩ := Int.eq_ofNat_of_zero_le o0.2.1.1
  obtain ⟨rfl, e0⟩ : k0 = 1 ∧ _ := f0
  simp only at e0 d0 T0
  obtain ⟨k1, n1, t1, s1⟩ := a1
  obtain ⟨n1, rfl⟩ := Int.eq_ofNat_of_zero_le o1.2.1.1
  obtain ⟨rfl, e1⟩ : k1 = 4 ∧ _ := f1
  simp only at e1 d1 T1
  obtain ⟨k2, n2, t2, s2⟩ := a2
  obtain ⟨n2, rfl⟩ := Int.eq_ofNat_of_zero_le o2.2.1.1
  obtain ⟨rfl, e2⟩ : k2 = 1 ∧ _ := f2
  simp only at e2 d2 T2
  obtain ⟨k3, n3, t3, s3⟩ := a3
  obtain ⟨n3, rfl⟩ := Int.eq_ofNat_of_zero_le o3.2.1.1
  obtain ⟨rfl, e3⟩ : k3 = 1 ∧ _ := f3
  simp only at e3 d3 T3
  obtain ⟨r, c, rfl, hr, hc⟩ := own_cells hown (by simp)
  refine (zz_connectionClose n0 n1 n2 n3 t0 t1 t2 t3 b0 b1 b2 b3 (by omega) (by omega) (by omega) hr hc).mono ?_
  rintro e w1 ⟨g, rfl, hg, hblk, hbel⟩
  refine ⟨125, g, 134, 137, rfl, hbel, ⟨fun w => by kernel_rfl, fun w => by kernel_rfl, fun w => by kernel_rfl, fun v w => by kernel_rfl, fun w' => calls_straight Tryz.func134 rfl (by kernel_rfl), fun w' B bb sv' xs h0 hB hb hBs hx => ?_⟩⟩
  have hblk' := hblk.below h0 hblk.lt
  have hcall := wr_connectionClose (g := g) [] n0 t1 n2 n3 hblk' (by have := hblk.lt; omega) hb hBs hx (by omega) e1 (by omega) (by omega)
  refine (Eq.subst (motive := fun z => Calls _ _ _ _ (Gave _ _ _ _ _ z)) ?_ hcall)
  clear hcall hblk' hbel h0 hb hblk hB hBs hx hg hown hr hc
  rw [argsB_high (by decide) (by decide), argsB_high (by decide) (by decide), argsB_high (by decide) (by decide), argsB_high (by decide) (by decide)]
  simp [argB, flushB, argsB_nil]

set_option maxRecDepth 100000 in
set_option maxHeartbeats 2000000 in
theorem zm_connectionCloseOk {w : World} {gs : List Ag} {H : Nat} {sv : Value} {cs : List Value} {q : Nat → Prop} (hpr : properF [] gs) (hok : ∀ a ∈ gs, a.ok ∧ a.fs.good none) (hown : w.ownsRow H 60 4 sv gs.length cs) (hz : ZgsC w q gs cs) (hq : ∀ g, q g → g < w.heap.size) :
    Calls Tryz.prog 18 #[.int .u16 10, .int .u16 51, sv] w (ZPost w 10 51 (argsB [] gs 0 0)) := by
  obtain rfl : gs = [] := hpr
  obtain rfl : cs = [] := hz
  obtain ⟨A, c, rfl⟩ := own_shape hown
  refine (zz_connectionCloseOk A c).mono ?_
  rintro e w1 ⟨g, rfl, hg, hblk, hbel⟩
  refine ⟨128, g, 138, 141, rfl, hbel, ⟨fun w => by kernel_rfl, fun w => by kernel_rfl, fun w => by kernel_rfl, fun v w => by kernel_rfl, fun w' => calls_straight Tryz.func138 rfl (by kernel_rfl), fun w' B bb sv' xs h0 hB hb hBs hx => ?_⟩⟩
  have hblk' := hblk.below h0 hblk.lt
  have hcall := wr_connectionCloseOk (g := g) []  hblk' (by have := hblk.lt; omega) hb hBs hx 
  refine (Eq.subst (motive := fun z => Calls _ _ _ _ (Gave _ _ _ _ _ z)) ?_ hcall)
  clear hcall hblk' hbel h0 hb hblk hB hBs hx hg hown
  rfl

set_option maxRecDepth 100000 in
set_option maxHeartbeats 2000000 in
theorem zm_connectionBlocked {w : World} {gs : List Ag} {H : Nat} {sv : Value} {cs : List Value} {q : Nat → Prop} (hpr : properF [83] gs) (hok : ∀ a ∈ gs, a.ok ∧ a.fs.good none) (hown : w.ownsRow H 60 4 sv gs.length cs) (hz : ZgsC w q gs cs) (hq : ∀ g, q g → g < w.heap.size) :
    Calls Tryz.prog 18 #[.int .u16 10, .int .u16 60, sv] w (ZPost w 10 60 (argsB [83] gs 0 0)) := by
  obtain ⟨a0, g1, rfl, f0, hpr⟩ := properF_hi (by decide) hpr
  replace f0 : a0.k = 4 ∧ a0.t.size ≤ 255 := f0
  obtain rfl : g1 = [] := hpr
  obtain ⟨o0, d0⟩ := hok a0 (by simp)
  obtain ⟨b0, cs0, rfl, T0, hz⟩ := hz
  obtain rfl : cs0 = [] := hz
  obtain ⟨k0, n0, t0, s0⟩ := a0
  obtain ⟨n0, rfl⟩ := Int.eq_ofNat_of_zero_le o0.2.1.1
  obtain ⟨rfl, e0⟩ : k0 = 4 ∧ _ := f0
  simp only at e0 d0 T0
  obtain ⟨r, c, rfl, hr, hc⟩ := own_cells hown (by simp)
  refine (zz_connectionBlocked n0 t0 b0  hr hc).mono ?_
  rintro e w1 ⟨g, rfl, hg, hblk, hbel⟩
  refine ⟨131, g, 142, 145, rfl, hbel, ⟨fun w => by kernel_rfl, fun w => by kernel_rfl, fun w => by kernel_rfl, fun v w => by kernel_rfl, fun w' => calls_straight Tryz.func142 rfl (by kernel_rfl), fun w' B bb sv' xs h0 hB hb hBs hx => ?_⟩⟩
  have hblk' := hblk.below h0 hblk.lt
  have hcall := wr_connectionBlocked (g := g) [] t0 hblk' (by have := hblk.lt; omega) hb hBs hx e0
  refine (Eq.subst (motive := fun z => Calls _ _ _ _ (Gave _ _ _ _ _ z)) ?_ hcall)
  clear hcall hblk' hbel h0 hb hblk hB hBs hx hg hown hr hc
  rw [argsB_high (by decide) (by decide)]
  simp [argB, flushB, argsB_nil]

set_option maxRecDepth 100000 in
set_option maxHeartbeats 2000000 in
theorem zm_connectionUnblocked {w : World} {gs : List Ag} {H : Nat} {sv : Value} {cs : List Value} {q : Nat → Prop} (hpr : properF [] gs) (hok : ∀ a ∈ gs, a.ok ∧ a.fs.good none) (hown : w.ownsRow H 60 4 sv gs.length cs) (hz : ZgsC w q gs cs) (hq : ∀ g, q g → g < w.heap.size) :
    Calls Tryz.prog 18 #[.int .u16 10, .int .u16 61, sv] w (ZPost w 10 61 (argsB [] gs 0 0)) := by
  obtain rfl : gs = [] := hpr
  obtain rfl : cs = [] := hz
  obtain ⟨A, c, rfl⟩ := own_shape hown
  refine (zz_connectionUnblocked A c).mono ?_
  rintro e w1 ⟨g, rfl, hg, hblk, hbel⟩
  refine ⟨134, g, 146, 149, rfl, hbel, ⟨fun w => by kernel_rfl, fun w => by kernel_rfl, fun w => by kernel_rfl, fun v w => by kernel_rfl, fun w' => calls_straight Tryz.func146 rfl (by kernel_rfl), fun w' B bb sv' xs h0 hB hb hBs hx => ?_⟩⟩
  have hblk' := hblk.below h0 hblk.lt
  have hcall := wr_connectionUnblocked (g := g) []  hblk' (by have := hblk.lt; omega) hb hBs hx 
  refine (Eq.subst (motive := fun z => Calls _ _ _ _ (Gave _ _ _ _ _ z)) ?_ hcall)
  clear hcall hblk' hbel h0 hb hblk hB hBs hx hg hown
  rfl

set_option maxRecDepth 100000 in
set_option maxHeartbeats 2000000 in
theorem zm_connectionUpdateSecret {w : World} {gs : List Ag} {H : Nat} {sv : Value} {cs : List Value} {q : Nat → Prop} (hpr : properF [76, 83] gs) (hok : ∀ a ∈ gs, a.ok ∧ a.fs.good none) (hown : w.ownsRow H 60 4 sv gs.length cs) (hz : ZgsC w q gs cs) (hq : ∀ g, q g → g < w.heap.size) :
    Calls Tryz.prog 18 #[.int .u16 10, .int .u16 70, sv] w (ZPost w 10 70 (argsB [76, 83] gs 0 0)) := by
  obtain ⟨a0, g1, rfl, f0, hpr⟩ := properF_hi (by decide) hpr
  replace f0 : a0.k = 5 ∧ a0.t.size ≤ 1000 := f0
  obtain ⟨a1, g2, rfl, f1, hpr⟩ := properF_hi (by decide) hpr
  replace f1 : a1.k = 4 ∧ a1.t.size ≤ 255 := f1
  obtain rfl : g2 = [] := hpr
  obtain ⟨o0, d0⟩ := hok a0 (by simp)
  obtain ⟨o1, d1⟩ := hok a1 (by simp)
  obtain ⟨b0, cs0, rfl, T0, hz⟩ := hz
  obtain ⟨b1, cs1, rfl, T1, hz⟩ := hz
  obtain rfl : cs1 = [] := hz
  obtain ⟨k0, n0, t0, s0⟩ := a0
  obtain ⟨n0, rfl⟩ := Int.eq_ofNat_of_zero_le o0.2.1.1
  obtain ⟨rfl, e0⟩ : k0 = 5 ∧ _ := f0
  simp only at e0 d0 T0
  obtain ⟨k1, n1, t1, s1⟩ := a1
  obtain ⟨n1, rfl⟩ := Int.eq_ofNat_of_zero_le o1.2.1.1
  obtain ⟨rfl, e1⟩ : k1 = 4 ∧ _ := f1
  simp only at e1 d1 T1
  obtain ⟨r, c, rfl, hr, hc⟩ := own_cells hown (by simp)
  refine (zz_connectionUpdateSecret n0 n1 t0 t1 b0 b1  hr hc).mono ?_
  rintro e w1 ⟨g, rfl, hg, hblk, hbel⟩
  refine ⟨136, g, 150, 153, rfl, hbel, ⟨fun w => by kernel_rfl, fun w => by kernel_rfl, fun w => by kernel_rfl, fun v w => by kernel_rfl, fun w' => calls_straight Tryz.func150 rfl (by kernel_rfl), fun w' B bb sv' xs h0 hB hb hBs hx => ?_⟩⟩
  have hblk' := hblk.below h0 hblk.lt
  have hcall := wr_connectionUpdateSecret (g := g) [] t0 t1 hblk' (by have := hblk.lt; omega) hb hBs hx e0 e1
  refine (Eq.subst (motive := fun z => Calls _ _ _ _ (Gave _ _ _ _ _ z)) ?_ hcall)
  clear hcall hblk' hbel h0 hb hblk hB hBs hx hg hown hr hc
  rw [argsB_high (by decide) (by decide), argsB_high (by decide) (by decide)]
  simp [argB, flushB, argsB_nil]

set_option maxRecDepth 100000 in
set_option maxHeartbeats 2000000 in
theorem zm_connectionUpdateSecretOk {w : World} {gs : List Ag} {H : Nat} {sv : Value} {cs : List Value} {q : Nat → Prop} (hpr : properF [] gs) (hok : ∀ a ∈ gs, a.ok ∧ a.fs.good none) (hown : w.ownsRow H 60 4 sv gs.length cs) (hz : ZgsC w q gs cs) (hq : ∀ g, q g → g < w.heap.size) :
    Calls Tryz.prog 18 #[.int .u16 10, .int .u16 71, sv] w (ZPost w 10 71 (argsB [] gs 0 0)) := by
  obtain rfl : gs = [] := hpr
  obtain rfl : cs = [] := hz
  obtain ⟨A, c, rfl⟩ := own_shape hown
  refine (zz_connectionUpdateSecretOk A c).mono ?_
  rintro e w1 ⟨g, rfl, hg, hblk, hbel⟩
  refine ⟨139, g, 154, 157, rfl, hbel, ⟨fun w => by kernel_rfl, fun w => by kernel_rfl, fun w => by kernel_rfl, fun v w => by kernel_rfl, fun w' => calls_straight Tryz.func154 rfl (by kernel_rfl), fun w' B bb sv' xs h0 hB hb hBs hx => ?_⟩⟩
  have hblk' := hblk.below h0 hblk.lt
  have hcall := wr_connectionUpdateSecretOk (g := g) []  hblk' (by have := hblk.lt; omega) hb hBs hx 
  refine (Eq.subst (motive := fun z => Calls _ _ _ _ (Gave _ _ _ _ _ z)) ?_ hcall)
  clear hcall hblk' hbel h0 hb hblk hB hBs hx hg hown
  rfl

set_option maxRecDepth 100000 in
set_option maxHeartbeats 2000000 in
theorem zm_channelOpen {w : World} {gs : List Ag} {H : Nat} {sv : Value} {cs : List Value} {q : Nat → Prop} (hpr : properF [50] gs) (hok : ∀ a ∈ gs, a.ok ∧ a.fs.good none) (hown : w.ownsRow H 60 4 sv gs.length cs) (hz : ZgsC w q gs cs) (hq : ∀ g, q g → g < w.heap.size) :
    Calls Tryz.prog 18 #[.int .u16 20, .int .u16 10, sv] w (ZPost w 20 10 (argsB [50] gs 0 0)) := by
  replace hpr := properF_lo (by decide) hpr
  obtain rfl : gs = [] := hpr
  obtain rfl : cs = [] := hz
  obtain ⟨A, c, rfl⟩ := own_shape hown
  refine (zz_channelOpen A c).mono ?_
  rintro e w1 ⟨g, rfl, hg, hblk, hbel⟩
  refine ⟨141, g, 158, 161, rfl, hbel, ⟨fun w => by kernel_rfl, fun w => by kernel_rfl, fun w => by kernel_rfl, fun v w => by kernel_rfl, fun w' => calls_straight Tryz.func158 rfl (by kernel_rfl), fun w' B bb sv' xs h0 hB hb hBs hx => ?_⟩⟩
  have hblk' := hblk.below h0 hblk.lt
  have hcall := wr_channelOpen (g := g) []  hblk' (by have := hblk.lt; omega) hb hBs hx 
  refine (Eq.subst (motive := fun z => Calls _ _ _ _ (Gave _ _ _ _ _ z)) ?_ hcall)
  clear hcall hblk' hbel h0 hb hblk hB hBs hx hg hown
  rw [argsB_low (by decide) (by decide)]
  simp [argB, flushB, argsB_nil, Ag.none, sz_none]

set_option maxRecDepth 100000 in
set_option maxHeartbeats 2000000 in
theorem zm_channelOpenOk {w : World} {gs : List Ag} {H : Nat} {sv : Value} {cs : List Value} {q : Nat → Prop} (hpr : properF [52] gs) (hok : ∀ a ∈ gs, a.ok ∧ a.fs.good none) (hown : w.ownsRow H 60 4 sv gs.length cs) (hz : ZgsC w q gs cs) (hq : ∀ g, q g → g < w.heap.size) :
    Calls Tryz.prog 18 #[.int .u16 20, .int .u16 11, sv] w (ZPost w 20 11 (argsB [52] gs 0 0)) := by
  replace hpr := properF_lo (by decide) hpr
  obtain rfl : gs = [] := hpr
  obtain rfl : cs = [] := hz
  obtain ⟨A, c, rfl⟩ := own_shape hown
  refine (zz_channelOpenOk A c).mono ?_
  rintro e w1 ⟨g, rfl, hg, hblk, hbel⟩
  refine ⟨143, g, 162, 165, rfl, hbel, ⟨fun w => by kernel_rfl, fun w => by kernel_rfl, fun w => by kernel_rfl, fun v w => by kernel_rfl, fun w' => calls_straight Tryz.func162 rfl (by kernel_rfl), fun w' B bb sv' xs h0 hB hb hBs hx => ?_⟩⟩
  have hblk' := hblk.below h0 hblk.lt
  have hcall := wr_channelOpenOk (g := g) []  hblk' (by have := hblk.lt; omega) hb hBs hx 
  refine (Eq.subst (motive := fun z => Calls _ _ _ _ (Gave _ _ _ _ _ z)) ?_ hcall)
  clear hcall hblk' hbel h0 hb hblk hB hBs hx hg hown
  rw [argsB_low (by decide) (by decide)]
  simp [argB, flushB, argsB_nil, Ag.none, sz_none]

set_option maxRecDepth 100000 in
set_option maxHeartbeats 2000000 in
theorem zm_channelFlow {w : World} {gs : List Ag} {H : Nat} {sv : Value} {cs : List Value} {q : Nat → Prop} (hpr : properF [98] gs) (hok : ∀ a ∈ gs, a.ok ∧ a.fs.good none) (hown : w.ownsRow H 60 4 sv gs.length cs) (hz : ZgsC w q gs cs) (hq : ∀ g, q g → g < w.heap.size) :
    Calls Tryz.prog 18 #[.int .u16 20, .int .u16 20, sv] w (ZPost w 20 20 (argsB [98] gs 0 0)) := by
  obtain ⟨a0, g1, rfl, f0, hpr⟩ := properF_hi (by decide) hpr
  replace f0 : a0.k = 6 ∧ a0.n ≤ 1 := f0
  obtain rfl : g1 = [] := hpr
  obtain ⟨o0, d0⟩ := hok a0 (by simp)
  obtain ⟨b0, cs0, rfl, T0, hz⟩ := hz
  obtain rfl : cs0 = [] := hz
  obtain ⟨k0, n0, t0, s0⟩ := a0
  obtain ⟨n0, rfl⟩ := Int.eq_ofNat_of_zero_le o0.2.1.1
  obtain ⟨rfl, e0⟩ : k0 = 6 ∧ _ := f0
  simp only at e0 d0 T0
  obtain ⟨r, c, rfl, hr, hc⟩ := own_cells hown (by simp)
  refine (zz_channelFlow n0 t0 b0  hr hc).mono ?_
  rintro e w1 ⟨g, rfl, hg, hblk, hbel⟩
  refine ⟨145, g, 166, 169, rfl, hbel, ⟨fun w => by kernel_rfl, fun w => by kernel_rfl, fun w => by kernel_rfl, fun v w => by kernel_rfl, fun w' => calls_straight Tryz.func166 rfl (by kernel_rfl), fun w' B bb sv' xs h0 hB hb hBs hx => ?_⟩⟩
  have hblk' := hblk.below h0 hblk.lt
  have hcall := wr_channelFlow (g := g) [] ((n0 : Int) != 0) hblk' (by have := hblk.lt; omega) hb hBs hx 
  have x0 : n0 = 0 ∨ n0 = 1 := by omega
  refine (Eq.subst (motive := fun z => Calls _ _ _ _ (Gave _ _ _ _ _ z)) ?_ hcall)
  clear hcall hblk' hbel h0 hb hblk hB hBs hx hg hown hr hc
  rcases x0 with rfl | rfl
  all_goals rw [argsB_98 rfl]
  all_goals simp [flushB, argsB_nil, orBit, bitv, be1]

set_option maxRecDepth 100000 in
set_option maxHeartbeats 2000000 in
theorem zm_channelFlowOk {w : World} {gs : List Ag} {H : Nat} {sv : Value} {cs : List Value} {q : Nat → Prop} (hpr : properF [98] gs) (hok : ∀ a ∈ gs, a.ok ∧ a.fs.good none) (hown : w.ownsRow H 60 4 sv gs.length cs) (hz : ZgsC w q gs cs) (hq : ∀ g, q g → g < w.heap.size) :
    Calls Tryz.prog 18 #[.int .u16 20, .int .u16 21, sv] w (ZPost w 20 21 (argsB [98] gs 0 0)) := by
  obtain ⟨a0, g1, rfl, f0, hpr⟩ := properF_hi (by decide) hpr
  replace f0 : a0.k = 6 ∧ a0.n ≤ 1 := f0
  obtain rfl : g1 = [] := hpr
  obtain ⟨o0, d0⟩ := hok a0 (by simp)
  obtain ⟨b0, cs0, rfl, T0, hz⟩ := hz
  obtain rfl : cs0 = [] := hz
  obtain ⟨k0, n0, t0, s0⟩ := a0
  obtain ⟨n0, rfl⟩ := Int.eq_ofNat_of_zero_le o0.2.1.1
  obtain ⟨rfl, e0⟩ : k0 = 6 ∧ _ := f0
  simp only at e0 d0 T0
  obtain ⟨r, c, rfl, hr, hc⟩ := own_cells hown (by simp)
  refine (zz_channelFlowOk n0 t0 b0  hr hc).mono ?_
  rintro e w1 ⟨g, rfl, hg, hblk, hbel⟩
  refine ⟨148, g, 170, 173, rfl, hbel, ⟨fun w => by kernel_rfl, fun w => by kernel_rfl, fun w => by kernel_rfl, fun v w => by kernel_rfl, fun w' => calls_straight Tryz.func170 rfl (by kernel_rfl), fun w' B bb sv' xs h0 hB hb hBs hx => ?_⟩⟩
  have hblk' := hblk.below h0 hblk.lt
  have hcall := wr_channelFlowOk (g := g) [] ((n0 : Int) != 0) hblk' (by have := hblk.lt; omega) hb hBs hx 
  have x0 : n0 = 0 ∨ n0 = 1 := by omega
  refine (Eq.subst (motive := fun z => Calls _ _ _ _ (Gave _ _ _ _ _ z)) ?_ hcall)
  clear hcall hblk' hbel h0 hb hblk hB hBs hx hg hown hr hc
  rcases x0 with rfl | rfl
  all_goals rw [argsB_98 rfl]
  all_goals simp [flushB, argsB_nil, orBit, bitv, be1]

set_option maxRecDepth 100000 in
set_option maxHeartbeats 2000000 in
theorem zm_channelClose {w : World} {gs : List Ag} {H : Nat} {sv : Value} {cs : List Value} {q : Nat → Prop} (hpr : properF [115, 83, 115, 115] gs) (hok : ∀ a ∈ gs, a.ok ∧ a.fs.good none) (hown : w.ownsRow H 60 4 sv gs.length cs) (hz : ZgsC w q gs cs) (hq : ∀ g, q g → g < w.heap.size) :
    Calls Tryz.prog 18 #[.int .u16 20, .int .u16 40, sv] w (ZPost w 20 40 (argsB [115, 83, 115, 115] gs 0 0)) := by
  obtain ⟨a0, g1, rfl, f0, hpr⟩ := properF_hi (by decide) hpr
  replace f0 : a0.k = 1 ∧ a0.n < 65536 := f0
  obtain ⟨a1, g2, rfl, f1, hpr⟩ := properF_hi (by decide) hpr
  replace f1 : a1.k = 4 ∧ a1.t.size ≤ 255 := f1
  obtain ⟨a2, g3, rfl, f2, hpr⟩ := properF_hi (by decide) hpr
  replace f2 : a2.k = 1 ∧ a2.n < 65536 := f2
  obtain ⟨a3, g4, rfl, f3, hpr⟩ := properF_hi (by decide) hpr
  replace f3 : a3.k = 1 ∧ a3.n < 65536 := f3
  obtain rfl : g4 = [] := hpr
  obtain ⟨o0, d0⟩ := hok a0 (by simp)
  obtain ⟨o1, d1⟩ := hok a1 (by simp)
  obtain ⟨o2, d2⟩ := hok a2 (by simp)
  obtain ⟨o3, d3⟩ := hok a3 (by simp)
  obtain ⟨b0, cs0, rfl, T0, hz⟩ := hz
  obtain ⟨b1, cs1, rfl, T1, hz⟩ := hz
  obtain ⟨b2, cs2, rfl, T2, hz⟩ := hz
  obtain ⟨b3, cs3, rfl, T3, hz⟩ := hz
  obtain rfl : cs3 = [] := hz
  obtain ⟨k0, n0, t0, s0⟩ := a0
  obtain ⟨n0, rfl⟩ := Int.eq_ofNat_of_zero_le o0.2.1.1
  obtain ⟨rfl, e0⟩ : k0 = 1 ∧ _ := f0
  simp only at e0 d0 T0
  obtain ⟨k1, n1, t1, s1⟩ := a1
  obtain ⟨n1, rfl⟩ := Int.eq_ofNat_of_zero_le o1.2.1.1
  obtain ⟨rfl, e1⟩ : k1 = 4 ∧ _ := f1
  simp only at e1 d1 T1
  obtain ⟨k2, n2, t2, s2⟩ := a2
  obtain ⟨n2, rfl⟩ := Int.eq_ofNat_of_zero_le o2.2.1.1
  obtain ⟨rfl, e2⟩ : k2 = 1 ∧ _ := f2
  simp only at e2 d2 T2
  obtain ⟨k3, n3, t3, s3⟩ := a3
  obtain ⟨n3, rfl⟩ := Int.eq_ofNat_of_zero_le o3.2.1.1
  obtain ⟨rfl, e3⟩ : k3 = 1 ∧ _ := f3
  simp only at e3 d3 T3
  obtain ⟨r, c, rfl, hr, hc⟩ := own_cells hown (by simp)
  refine (zz_channelClose n0 n1 n2 n3 t0 t1 t2 t3 b0 b1 b2 b3 (by omega) (by omega) (by omega) hr hc).mono ?_
  rintro e w1 ⟨g, rfl, hg, hblk, hbel⟩
  refine ⟨150, g, 174, 177, rfl, hbel, ⟨fun w => by kernel_rfl, fun w => by kernel_rfl, fun w => by kernel_rfl, fun v w => by kernel_rfl, fun w' => calls_straight Tryz.func174 rfl (by kernel_rfl), fun w' B bb sv' xs h0 hB hb hBs hx => ?_⟩⟩
  have hblk' := hblk.below h0 hblk.lt
  have hcall := wr_channelClose (g := g) [] n0 t1 n2 n3 hblk' (by have := hblk.lt; omega) hb hBs hx (by omega) e1 (by omega) (by omega)
  refine (Eq.subst (motive := fun z => Calls _ _ _ _ (Gave _ _ _ _ _ z)) ?_ hcall)
  clear hcall hblk' hbel h0 hb hblk hB hBs hx hg hown hr hc
  rw [argsB_high (by decide) (by decide), argsB_high (by decide) (by decide), argsB_high (by decide) (by decide), argsB_high (by decide) (by decide)]
  simp [argB, flushB, argsB_nil]

set_option maxRecDepth 100000 in
set_option maxHeartbeats 2000000 in
theorem zm_channelCloseOk {w : World} {gs : List Ag} {H : Nat} {sv : Value} {cs : List Value} {q : Nat → Prop} (hpr : properF [] gs) (hok : ∀ a ∈ gs, a.ok ∧ a.fs.good none) (hown : w.ownsRow H 60 4 sv gs.length cs) (hz : ZgsC w q gs cs) (hq : ∀ g, q g → g < w.heap.size) :
    Calls Tryz.prog 18 #[.int .u16 20, .int .u16 41, sv] w (ZPost w 20 41 (argsB [] gs 0 0)) := by
  obtain rfl : gs = [] := hpr
  obtain rfl : cs = [] := hz
  obtain ⟨A, c, rfl⟩ := own_shape hown
  refine (zz_channelCloseOk A c).mono ?_
  rintro e w1 ⟨g, rfl, hg, hblk, hbel⟩
  refine ⟨152, g, 178, 181, rfl, hbel, ⟨fun w => by kernel_rfl, fun w => by kernel_rfl, fun w => by kernel_rfl, fun v w => by kernel_rfl, fun w' => calls_straight Tryz.func178 rfl (by kernel_rfl), fun w' B bb sv' xs h0 hB hb hBs hx => ?_⟩⟩
  have hblk' := hblk.below h0 hblk.lt
  have hcall := wr_channelCloseOk (g := g) []  hblk' (by have := hblk.lt; omega) hb hBs hx 
  refine (Eq.subst (motive := fun z => Calls _ _ _ _ (Gave _ _ _ _ _ z)) ?_ hcall)
  clear hcall hblk' hbel h0 hb hblk hB hBs hx hg hown
  rfl

set_option maxRecDepth 100000 in
set_option maxHeartbeats 2000000 in
theorem zm_exchangeDeclare {w : World} {gs : List Ag} {H : Nat} {sv : Value} {cs : List Value} {q : Nat → Prop} (hpr : properF [49, 83, 83, 98, 98, 98, 98, 98, 116] gs) (hok : ∀ a ∈ gs, a.ok ∧ a.fs.good none) (hown : w.ownsRow H 60 4 sv gs.length cs) (hz : ZgsC w q gs cs) (hq : ∀ g, q g → g < w.heap.size) :
    Calls Tryz.prog 18 #[.int .u16 40, .int .u16 10, sv] w (ZPost w 40 10 (argsB [49, 83, 83, 98, 98, 98, 98, 98, 116] gs 0 0)) := by
  replace hpr := properF_lo (by decide) hpr
  obtain ⟨a0, g1, rfl, f0, hpr⟩ := properF_hi (by decide) hpr
  replace f0 : a0.k = 4 ∧ a0.t.size ≤ 255 := f0
  obtain ⟨a1, g2, rfl, f1, hpr⟩ := properF_hi (by decide) hpr
  replace f1 : a1.k = 4 ∧ a1.t.size ≤ 255 := f1
  obtain ⟨a2, g3, rfl, f2, hpr⟩ := properF_hi (by decide) hpr
  replace f2 : a2.k = 6 ∧ a2.n ≤ 1 := f2
  obtain ⟨a3, g4, rfl, f3, hpr⟩ := properF_hi (by decide) hpr
  replace f3 : a3.k = 6 ∧ a3.n ≤ 1 := f3
  obtain ⟨a4, g5, rfl, f4, hpr⟩ := properF_hi (by decide) hpr
  replace f4 : a4.k = 6 ∧ a4.n ≤ 1 := f4
  obtain ⟨a5, g6, rfl, f5, hpr⟩ := properF_hi (by decide) hpr
  replace f5 : a5.k = 6 ∧ a5.n ≤ 1 := f5
  obtain ⟨a6, g7, rfl, f6, hpr⟩ := properF_hi (by decide) hpr
  replace f6 : a6.k = 6 ∧ a6.n ≤ 1 := f6
  obtain ⟨a7, g8, rfl, f7, hpr⟩ := properF_hi (by decide) hpr
  replace f7 : a7.k = 7 ∧ a7.fs.enc.length ≤ 20000 := f7
  obtain rfl : g8 = [] := hpr
  obtain ⟨o0, d0⟩ := hok a0 (by simp)
  obtain ⟨o1, d1⟩ := hok a1 (by simp)
  obtain ⟨o2, d2⟩ := hok a2 (by simp)
  obtain ⟨o3, d3⟩ := hok a3 (by simp)
  obtain ⟨o4, d4⟩ := hok a4 (by simp)
  obtain ⟨o5, d5⟩ := hok a5 (by simp)
  obtain ⟨o6, d6⟩ := hok a6 (by simp)
  obtain ⟨o7, d7⟩ := hok a7 (by simp)
  obtain ⟨b0, cs0, rfl, T0, hz⟩ := hz
  obtain ⟨b1, cs1, rfl, T1, hz⟩ := hz
  obtain ⟨b2, cs2, rfl, T2, hz⟩ := hz
  obtain ⟨b3, cs3, rfl, T3, hz⟩ := hz
  obtain ⟨b4, cs4, rfl, T4, hz⟩ := hz
  obtain ⟨b5, cs5, rfl, T5, hz⟩ := hz
  obtain ⟨b6, cs6, rfl, T6, hz⟩ := hz
  obtain ⟨b7, cs7, rfl, T7, hz⟩ := hz
  obtain rfl : cs7 = [] := hz
  obtain ⟨k0, n0, t0, s0⟩ := a0
  obtain ⟨n0, rfl⟩ := Int.eq_ofNat_of_zero_le o0.2.1.1
  obtain ⟨rfl, e0⟩ : k0 = 4 ∧ _ := f0
  simp only at e0 d0 T0
  obtain ⟨k1, n1, t1, s1⟩ := a1
  obtain ⟨n1, rfl⟩ := Int.eq_ofNat_of_zero_le o1.2.1.1
  obtain ⟨rfl, e1⟩ : k1 = 4 ∧ _ := f1
  simp only at e1 d1 T1
  obtain ⟨k2, n2, t2, s2⟩ := a2
  obtain ⟨n2, rfl⟩ := Int.eq_ofNat_of_zero_le o2.2.1.1
  obtain ⟨rfl, e2⟩ : k2 = 6 ∧ _ := f2
  simp only at e2 d2 T2
  obtain ⟨k3, n3, t3, s3⟩ := a3
  obtain ⟨n3, rfl⟩ := Int.eq_ofNat_of_zero_le o3.2.1.1
  obtain ⟨rfl, e3⟩ : k3 = 6 ∧ _ := f3
  simp only at e3 d3 T3
  obtain ⟨k4, n4, t4, s4⟩ := a4
  obtain ⟨n4, rfl⟩ := Int.eq_ofNat_of_zero_le o4.2.1.1
  obtain ⟨rfl, e4⟩ : k4 = 6 ∧ _ := f4
  simp only at e4 d4 T4
  obtain ⟨k5, n5, t5, s5⟩ := a5
  obtain ⟨n5, rfl⟩ := Int.eq_ofNat_of_zero_le o5.2.1.1
  obtain ⟨rfl, e5⟩ : k5 = 6 ∧ _ := f5
  simp only at e5 d5 T5
  obtain ⟨k6, n6, t6, s6⟩ := a6
  obtain ⟨n6, rfl⟩ := Int.eq_ofNat_of_zero_le o6.2.1.1
  obtain ⟨rfl, e6⟩ : k6 = 6 ∧ _ := f6
  simp only at e6 d6 T6
  obtain ⟨k7, n7, t7, s7⟩ := a7
  obtain ⟨n7, rfl⟩ := Int.eq_ofNat_of_zero_le o7.2.1.1
  obtain ⟨rfl, e7⟩ : k7 = 7 ∧ _ := f7
  simp only at e7 d7 T7
  obtain ⟨r, c, rfl, hr, hc⟩ := own_cells hown (by simp)
  refine (zz_exchangeDeclare n0 n1 n2 n3 n4 n5 n6 n7 t0 t1 t2 t3 t4 t5 t6 t7 b0 b1 b2 b3 b4 b5 b6 b7  hr hc).mono ?_
  rintro e w1 ⟨g, rfl, hg, hblk, hbel⟩
  refine ⟨154, g, 182, 185, rfl, hbel, ⟨fun w => by kernel_rfl, fun w => by kernel_rfl, fun w => by kernel_rfl, fun v w => by kernel_rfl, fun w' => calls_straight Tryz.func182 rfl (by kernel_rfl), fun w' B bb sv' xs h0 hB hb hBs hx => ?_⟩⟩
  have hblk' := hblk.below h0 hblk.lt
  have hcall := wr_exchangeDeclare (g := g) [] t0 t1 ((n2 : Int) != 0) ((n3 : Int) != 0) ((n4 : Int) != 0) ((n5 : Int) != 0) ((n6 : Int) != 0) b7 s7 hblk' (by have := hblk.lt; omega) hb hBs hx e0 e1 (T7.keep (q := fun g => g < B) (fun x hx => (h0.block x (by have := hq x hx; have := hbel.size; omega)).trans (hbel.block x (hq x hx))) (fun x hx => by have := hq x hx; have := hbel.size; omega)) d7 o7.2.2.2.1 e7
  have x2 : n2 = 0 ∨ n2 = 1 := by omega
  have x3 : n3 = 0 ∨ n3 = 1 := by omega
  have x4 : n4 = 0 ∨ n4 = 1 := by omega
  have x5 : n5 = 0 ∨ n5 = 1 := by omega
  have x6 : n6 = 0 ∨ n6 = 1 := by omega
  refine (Eq.subst (motive := fun z => Calls _ _ _ _ (Gave _ _ _ _ _ z)) ?_ hcall)
  clear hcall hblk' hbel h0 hb hblk hB hBs hx hg hown hr hc
  rcases x2 with rfl | rfl <;> rcases x3 with rfl | rfl <;> rcases x4 with rfl | rfl <;> rcases x5 with rfl | rfl <;> rcases x6 with rfl | rfl
  all_goals rw [argsB_low (by decide) (by decide), argsB_high (by decide) (by decide), argsB_high (by decide) (by decide), argsB_98 rfl, argsB_98 rfl, argsB_98 rfl, argsB_98 rfl, argsB_98 rfl, argsB_high (by decide) (by decide)]
  all_goals simp [argB, flushB, argsB_nil, Ag.none, orBit, bitv, be1]

set_option maxRecDepth 100000 in
set_option maxHeartbeats 2000000 in
theorem zm_exchangeDeclareOk {w : World} {gs : List Ag} {H : Nat} {sv : Value} {cs : List Value} {q : Nat → Prop} (hpr : properF [] gs) (hok : ∀ a ∈ gs, a.ok ∧ a.fs.good none) (hown : w.ownsRow H 60 4 sv gs.length cs) (hz : ZgsC w q gs cs) (hq : ∀ g, q g → g < w.heap.size) :
    Calls Tryz.prog 18 #[.int .u16 40, .int .u16 11, sv] w (ZPost w 40 11 (argsB [] gs 0 0)) := by
  obtain rfl : gs = [] := hpr
  obtain rfl : cs = [] := hz
  obtain ⟨A, c, rfl⟩ := own_shape hown
  refine (zz_exchangeDeclareOk A c).mono ?_
  rintro e w1 ⟨g, rfl, hg, hblk, hbel⟩
  refine ⟨157, g, 186, 189, rfl, hbel, ⟨fun w => by kernel_rfl, fun w => by kernel_rfl, fun w => by kernel_rfl, fun v w => by kernel_rfl, fun w' => calls_straight Tryz.func186 rfl (by kernel_rfl), fun w' B bb sv' xs h0 hB hb hBs hx => ?_⟩⟩
  have hblk' := hblk.below h0 hblk.lt
  have hcall := wr_exchangeDeclareOk (g := g) []  hblk' (by have := hblk.lt; omega) hb hBs hx 
  refine (Eq.subst (motive := fun z => Calls _ _ _ _ (Gave _ _ _ _ _ z)) ?_ hcall)
  clear hcall hblk' hbel h0 hb hblk hB hBs hx hg hown
  rfl

set_option maxRecDepth 100000 in
set_option maxHeartbeats 2000000 in
theorem zm_exchangeDelete {w : World} {gs : List Ag} {H : Nat} {sv : Value} {cs : List Value} {q : Nat → Prop} (hpr : properF [49, 83, 98, 98] gs) (hok : ∀ a ∈ gs, a.ok ∧ a.fs.good none) (hown : w.ownsRow H 60 4 sv gs.length cs) (hz : ZgsC w q gs cs) (hq : ∀ g, q g → g < w.heap.size) :
    Calls Tryz.prog 18 #[.int .u16 40, .int .u16 20, sv] w (ZPost w 40 20 (argsB [49, 83, 98, 98] gs 0 0)) := by
  replace hpr := properF_lo (by decide) hpr
  obtain ⟨a0, g1, rfl, f0, hpr⟩ := properF_hi (by decide) hpr
  replace f0 : a0.k = 4 ∧ a0.t.size ≤ 255 := f0
  obtain ⟨a1, g2, rfl, f1, hpr⟩ := properF_hi (by decide) hpr
  replace f1 : a1.k = 6 ∧ a1.n ≤ 1 := f1
  obtain ⟨a2, g3, rfl, f2, hpr⟩ := properF_hi (by decide) hpr
  replace f2 : a2.k = 6 ∧ a2.n ≤ 1 := f2
  obtain rfl : g3 = [] := hpr
  obtain ⟨o0, d0⟩ := hok a0 (by simp)
  obtain ⟨o1, d1⟩ := hok a1 (by simp)
  obtain ⟨o2, d2⟩ := hok a2 (by simp)
  obtain ⟨b0, cs0, rfl, T0, hz⟩ := hz
  obtain ⟨b1, cs1, rfl, T1, hz⟩ := hz
  obtain ⟨b2, cs2, rfl, T2, hz⟩ := hz
  obtain rfl : cs2 = [] := hz
  obtain ⟨k0, n0, t0, s0⟩ := a0
  obtain ⟨n0, rfl⟩ := Int.eq_ofNat_of_zero_le o0.2.1.1
  obtain ⟨rfl, e0⟩ : k0 = 4 ∧ _ := f0
  simp only at e0 d0 T0
  obtain ⟨k1, n1, t1, s1⟩ := a1
  obtain ⟨n1, rfl⟩ := Int.eq_ofNat_of_zero_le o1.2.1.1
  obtain ⟨rfl, e1⟩ : k1 = 6 ∧ _ := f1
  simp only at e1 d1 T1
  obtain ⟨k2, n2, t2, s2⟩ := a2
  obtain ⟨n2, rfl⟩ := Int.eq_ofNat_of_zero_le o2.2.1.1
  obtain ⟨rfl, e2⟩ : k2 = 6 ∧ _ := f2
  simp only at e2 d2 T2
  obtain ⟨r, c, rfl, hr, hc⟩ := own_cells hown (by simp)
  refine (zz_exchangeDelete n0 n1 n2 t0 t1 t2 b0 b1 b2  hr hc).mono ?_
  rintro e w1 ⟨g, rfl, hg, hblk, hbel⟩
  refine ⟨159, g, 190, 193, rfl, hbel, ⟨fun w => by kernel_rfl, fun w => by kernel_rfl, fun w => by kernel_rfl, fun v w => by kernel_rfl, fun w' => calls_straight Tryz.func190 rfl (by kernel_rfl), fun w' B bb sv' xs h0 hB hb hBs hx => ?_⟩⟩
  have hblk' := hblk.below h0 hblk.lt
  have hcall := wr_exchangeDelete (g := g) [] t0 ((n1 : Int) != 0) ((n2 : Int) != 0) hblk' (by have := hblk.lt; omega) hb hBs hx e0
  have x1 : n1 = 0 ∨ n1 = 1 := by omega
  have x2 : n2 = 0 ∨ n2 = 1 := by omega
  refine (Eq.subst (motive := fun z => Calls _ _ _ _ (Gave _ _ _ _ _ z)) ?_ hcall)
  clear hcall hblk' hbel h0 hb hblk hB hBs hx hg hown hr hc
  rcases x1 with rfl | rfl <;> rcases x2 with rfl | rfl
  all_goals rw [argsB_low (by decide) (by decide), argsB_high (by decide) (by decide), argsB_98 rfl, argsB_98 rfl]
  all_goals simp [argB, flushB, argsB_nil, Ag.none, orBit, bitv, be1]

set_option maxRecDepth 100000 in
set_option maxHeartbeats 2000000 in
theorem zm_exchangeDeleteOk {w : World} {gs : List Ag} {H : Nat} {sv : Value} {cs : List Value} {q : Nat → Prop} (hpr : properF [] gs) (hok : ∀ a ∈ gs, a.ok ∧ a.fs.good none) (hown : w.ownsRow H 60 4 sv gs.length cs) (hz : ZgsC w q gs cs) (hq : ∀ g, q g → g < w.heap.size) :
    Calls Tryz.prog 18 #[.int .u16 40, .int .u16 21, sv] w (ZPost w 40 21 (argsB [] gs 0 0)) := by
  obtain rfl : gs = [] := hpr
  obtain rfl : cs = [] := hz
  obtain ⟨A, c, rfl⟩ := own_shape hown
  refine (zz_exchangeDeleteOk A c).mono ?_
  rintro e w1 ⟨g, rfl, hg, hblk, hbel⟩
  refine ⟨162, g, 194, 197, rfl, hbel, ⟨fun w => by kernel_rfl, fun w => by kernel_rfl, fun w => by kernel_rfl, fun v w => by kernel_rfl, fun w' => calls_straight Tryz.func194 rfl (by kernel_rfl), fun w' B bb sv' xs h0 hB hb hBs hx => ?_⟩⟩
  have hblk' := hblk.below h0 hblk.lt
  have hcall := wr_exchangeDeleteOk (g := g) []  hblk' (by have := hblk.lt; omega) hb hBs hx 
  refine (Eq.subst (motive := fun z => Calls _ _ _ _ (Gave _ _ _ _ _ z)) ?_ hcall)
  clear hcall hblk' hbel h0 hb hblk hB hBs hx hg hown
  rfl

set_option maxRecDepth 100000 in
set_option maxHeartbeats 2000000 in
theorem zm_exchangeBind {w : World} {gs : List Ag} {H : Nat} {sv : Value} {cs : List Value} {q : Nat → Prop} (hpr : properF [49, 83, 83, 83, 98, 116] gs) (hok : ∀ a ∈ gs, a.ok ∧ a.fs.good none) (hown : w.ownsRow H 60 4 sv gs.length cs) (hz : ZgsC w q gs cs) (hq : ∀ g, q g → g < w.heap.size) :
    Calls Tryz.prog 18 #[.int .u16 40, .int .u16 30, sv] w (ZPost w 40 30 (argsB [49, 83, 83, 83, 98, 116] gs 0 0)) := by
  replace hpr := properF_lo (by decide) hpr
  obtain ⟨a0, g1, rfl, f0, hpr⟩ := properF_hi (by decide) hpr
  replace f0 : a0.k = 4 ∧ a0.t.size ≤ 255 := f0
  obtain ⟨a1, g2, rfl, f1, hpr⟩ := properF_hi (by decide) hpr
  replace f1 : a1.k = 4 ∧ a1.t.size ≤ 255 := f1
  obtain ⟨a2, g3, rfl, f2, hpr⟩ := properF_hi (by decide) hpr
  replace f2 : a2.k = 4 ∧ a2.t.size ≤ 255 := f2
  obtain ⟨a3, g4, rfl, f3, hpr⟩ := properF_hi (by decide) hpr
  replace f3 : a3.k = 6 ∧ a3.n ≤ 1 := f3
  obtain ⟨a4, g5, rfl, f4, hpr⟩ := properF_hi (by decide) hpr
  replace f4 : a4.k = 7 ∧ a4.fs.enc.length ≤ 20000 := f4
  obtain rfl : g5 = [] := hpr
  obtain ⟨o0, d0⟩ := hok a0 (by simp)
  obtain ⟨o1, d1⟩ := hok a1 (by simp)
  obtain ⟨o2, d2⟩ := hok a2 (by simp)
  obtain ⟨o3, d3⟩ := hok a3 (by simp)
  obtain ⟨o4, d4⟩ := hok a4 (by simp)
  obtain ⟨b0, cs0, rfl, T0, hz⟩ := hz
  obtain ⟨b1, cs1, rfl, T1, hz⟩ := hz
  obtain ⟨b2, cs2, rfl, T2, hz⟩ := hz
  obtain ⟨b3, cs3, rfl, T3, hz⟩ := hz
  obtain ⟨b4, cs4, rfl, T4, hz⟩ := hz
  obtain rfl : cs4 = [] := hz
  obtain ⟨k0, n0, t0, s0⟩ := a0
  obtain ⟨n0, rfl⟩ := Int.eq_ofNat_of_zero_le o0.2.1.1
  obtain ⟨rfl, e0⟩ : k0 = 4 ∧ _ := f0
  simp only at e0 d0 T0
  obtain ⟨k1, n1, t1, s1⟩ := a1
  obtain ⟨n1, rfl⟩ := Int.eq_ofNat_of_zero_le o1.2.1.1
  obtain ⟨rfl, e1⟩ : k1 = 4 ∧ _ := f1
  simp only at e1 d1 T1
  obtain ⟨k2, n2, t2, s2⟩ := a2
  obtain ⟨n2, rfl⟩ := Int.eq_ofNat_of_zero_le o2.2.1.1
  obtain ⟨rfl, e2⟩ : k2 = 4 ∧ _ := f2
  simp only at e2 d2 T2
  obtain ⟨k3, n3, t3, s3⟩ := a3
  obtain ⟨n3, rfl⟩ := Int.eq_ofNat_of_zero_le o3.2.1.1
  obtain ⟨rfl, e3⟩ : k3 = 6 ∧ _ := f3
  simp only at e3 d3 T3
  obtain ⟨k4, n4, t4, s4⟩ := a4
  obtain ⟨n4, rfl⟩ := Int.eq_ofNat_of_zero_le o4.2.1.1
  obtain ⟨rfl, e4⟩ : k4 = 7 ∧ _ := f4
  simp only at e4 d4 T4
  obtain ⟨r, c, rfl, hr, hc⟩ := own_cells hown (by simp)
  refine (zz_exchangeBind n0 n1 n2 n3 n4 t0 t1 t2 t3 t4 b0 b1 b2 b3 b4  hr hc).mono ?_
  rintro e w1 ⟨g, rfl, hg, hblk, hbel⟩
  refine ⟨164, g, 198, 201, rfl, hbel, ⟨fun w => by kernel_rfl, fun w => by kernel_rfl, fun w => by kernel_rfl, fun v w => by kernel_rfl, fun w' => calls_straight Tryz.func198 rfl (by kernel_rfl), fun w' B bb sv' xs h0 hB hb hBs hx => ?_⟩⟩
  have hblk' := hblk.below h0 hblk.lt
  have hcall := wr_exchangeBind (g := g) [] t0 t1 t2 ((n3 : Int) != 0) b4 s4 hblk' (by have := hblk.lt; omega) hb hBs hx e0 e1 e2 (T4.keep (q := fun g => g < B) (fun x hx => (h0.block x (by have := hq x hx; have := hbel.size; omega)).trans (hbel.block x (hq x hx))) (fun x hx => by have := hq x hx; have := hbel.size; omega)) d4 o4.2.2.2.1 e4
  have x3 : n3 = 0 ∨ n3 = 1 := by omega
  refine (Eq.subst (motive := fun z => Calls _ _ _ _ (Gave _ _ _ _ _ z)) ?_ hcall)
  clear hcall hblk' hbel h0 hb hblk hB hBs hx hg hown hr hc
  rcases x3 with rfl | rfl
  all_goals rw [argsB_low (by decide) (by decide), argsB_high (by decide) (by decide), argsB_high (by decide) (by decide), argsB_high (by decide) (by decide), argsB_98 rfl, argsB_high (by decide) (by decide)]
  all_goals simp [argB, flushB, argsB_nil, Ag.none, orBit, bitv, be1]

set_option maxRecDepth 100000 in
set_option maxHeartbeats 2000000 in
theorem zm_exchangeBindOk {w : World} {gs : List Ag} {H : Nat} {sv : Value} {cs : List Value} {q : Nat → Prop} (hpr : properF [] gs) (hok : ∀ a ∈ gs, a.ok ∧ a.fs.good none) (hown : w.ownsRow H 60 4 sv gs.length cs) (hz : ZgsC w q gs cs) (hq : ∀ g, q g → g < w.heap.size) :
    Calls Tryz.prog 18 #[.int .u16 40, .int .u16 31, sv] w (ZPost w 40 31 (argsB [] gs 0 0)) := by
  obtain rfl : gs = [] := hpr
  obtain rfl : cs = [] := hz
  obtain ⟨A, c, rfl⟩ := own_shape hown
  refine (zz_exchangeBindOk A c).mono ?_
  rintro e w1 ⟨g, rfl, hg, hblk, hbel⟩
  refine ⟨167, g, 202, 205, rfl, hbel, ⟨fun w => by kernel_rfl, fun w => by kernel_rfl, fun w => by kernel_rfl, fun v w => by kernel_rfl, fun w' => calls_straight Tryz.func202 rfl (by kernel_rfl), fun w' B bb sv' xs h0 hB hb hBs hx => ?_⟩⟩
  have hblk' := hblk.below h0 hblk.lt
  have hcall := wr_exchangeBindOk (g := g) []  hblk' (by have := hblk.lt; omega) hb hBs hx 
  refine (Eq.subst (motive := fun z => Calls _ _ _ _ (Gave _ _ _ _ _ z)) ?_ hcall)
  clear hcall hblk' hbel h0 hb hblk hB hBs hx hg hown
  rfl

set_option maxRecDepth 100000 in
set_option maxHeartbeats 2000000 in
theorem zm_exchangeUnbind {w : World} {gs : List Ag} {H : Nat} {sv : Value} {cs : List Value} {q : Nat → Prop} (hpr : properF [49, 83, 83, 83, 98, 116] gs) (hok : ∀ a ∈ gs, a.ok ∧ a.fs.good none) (hown : w.ownsRow H 60 4 sv gs.length cs) (hz : ZgsC w q gs cs) (hq : ∀ g, q g → g < w.heap.size) :
    Calls Tryz.prog 18 #[.int .u16 40, .int .u16 40, sv] w (ZPost w 40 40 (argsB [49, 83, 83, 83, 98, 116] gs 0 0)) := by
  replace hpr := properF_lo (by decide) hpr
  obtain ⟨a0, g1, rfl, f0, hpr⟩ := properF_hi (by decide) hpr
  replace f0 : a0.k = 4 ∧ a0.t.size ≤ 255 := f0
  obtain ⟨a1, g2, rfl, f1, hpr⟩ := properF_hi (by decide) hpr
  replace f1 : a1.k = 4 ∧ a1.t.size ≤ 255 := f1
  obtain ⟨a2, g3, rfl, f2, hpr⟩ := properF_hi (by decide) hpr
  replace f2 : a2.k = 4 ∧ a2.t.size ≤ 255 := f2
  obtain ⟨a3, g4, rfl, f3, hpr⟩ := properF_hi (by decide) hpr
  replace f3 : a3.k = 6 ∧ a3.n ≤ 1 := f3
  obtain ⟨a4, g5, rfl, f4, hpr⟩ := properF_hi (by decide) hpr
  replace f4 : a4.k = 7 ∧ a4.fs.enc.length ≤ 20000 := f4
  obtain rfl : g5 = [] := hpr
  obtain ⟨o0, d0⟩ := hok a0 (by simp)
  obtain ⟨o1, d1⟩ := hok a1 (by simp)
  obtain ⟨o2, d2⟩ := hok a2 (by simp)
  obtain ⟨o3, d3⟩ := hok a3 (by simp)
  obtain ⟨o4, d4⟩ := hok a4 (by simp)
  obtain ⟨b0, cs0, rfl, T0, hz⟩ := hz
  obtain ⟨b1, cs1, rfl, T1, hz⟩ := hz
  obtain ⟨b2, cs2, rfl, T2, hz⟩ := hz
  obtain ⟨b3, cs3, rfl, T3, hz⟩ := hz
  obtain ⟨b4, cs4, rfl, T4, hz⟩ := hz
  obtain rfl : cs4 = [] := hz
  obtain ⟨k0, n0, t0, s0⟩ := a0
  obtain ⟨n0, rfl⟩ := Int.eq_ofNat_of_zero_le o0.2.1.1
  obtain ⟨rfl, e0⟩ : k0 = 4 ∧ _ := f0
  simp only at e0 d0 T0
  obtain ⟨k1, n1, t1, s1⟩ := a1
  obtain ⟨n1, rfl⟩ := Int.eq_ofNat_of_zero_le o1.2.1.1
  obtain ⟨rfl, e1⟩ : k1 = 4 ∧ _ := f1
  simp only at e1 d1 T1
  obtain ⟨k2, n2, t2, s2⟩ := a2
  obtain ⟨n2, rfl⟩ := Int.eq_ofNat_of_zero_le o2.2.1.1
  obtain ⟨rfl, e2⟩ : k2 = 4 ∧ _ := f2
  simp only at e2 d2 T2
  obtain ⟨k3, n3, t3, s3⟩ := a3
  obtain ⟨n3, rfl⟩ := Int.eq_ofNat_of_zero_le o3.2.1.1
  obtain ⟨rfl, e3⟩ : k3 = 6 ∧ _ := f3
  simp only at e3 d3 T3
  obtain ⟨k4, n4, t4, s4⟩ := a4
  obtain ⟨n4, rfl⟩ := Int.eq_ofNat_of_zero_le o4.2.1.1
  obtain ⟨rfl, e4⟩ : k4 = 7 ∧ _ := f4
  simp only at e4 d4 T4
  obtain ⟨r, c, rfl, hr, hc⟩ := own_cells hown (by simp)
  refine (zz_exchangeUnbind n0 n1 n2 n3 n4 t0 t1 t2 t3 t4 b0 b1 b2 b3 b4  hr hc).mono ?_
  rintro e w1 ⟨g, rfl, hg, hblk, hbel⟩
  refine ⟨169, g, 206, 209, rfl, hbel, ⟨fun w => by kernel_rfl, fun w => by kernel_rfl, fun w => by kernel_rfl, fun v w => by kernel_rfl, fun w' => calls_straight Tryz.func206 rfl (by kernel_rfl), fun w' B bb sv' xs h0 hB hb hBs hx => ?_⟩⟩
  have hblk' := hblk.below h0 hblk.lt
  have hcall := wr_exchangeUnbind (g := g) [] t0 t1 t2 ((n3 : Int) != 0) b4 s4 hblk' (by have := hblk.lt; omega) hb hBs hx e0 e1 e2 (T4.keep (q := fun g => g < B) (fun x hx => (h0.block x (by have := hq x hx; have := hbel.size; omega)).trans (hbel.block x (hq x hx))) (fun x hx => by have := hq x hx; have := hbel.size; omega)) d4 o4.2.2.2.1 e4
  have x3 : n3 = 0 ∨ n3 = 1 := by omega
  refine (Eq.subst (motive := fun z => Calls _ _ _ _ (Gave _ _ _ _ _ z)) ?_ hcall)
  clear hcall hblk' hbel h0 hb hblk hB hBs hx hg hown hr hc
  rcases x3 with rfl | rfl
  all_goals rw [argsB_low (by decide) (by decide), argsB_high (by decide) (by decide), argsB_high (by decide) (by decide), argsB_high (by decide) (by decide), argsB_98 rfl, argsB_high (by decide) (by decide)]
  all_goals simp [argB, flushB, argsB_nil, Ag.none, orBit, bitv, be1]

set_option maxRecDepth 100000 in
set_option maxHeartbeats 2000000 in
theorem zm_exchangeUnbindOk {w : World} {gs : List Ag} {H : Nat} {sv : Value} {cs : List Value} {q : Nat → Prop} (hpr : properF [] gs) (hok : ∀ a ∈ gs, a.ok ∧ a.fs.good none) (hown : w.ownsRow H 60 4 sv gs.length cs) (hz : ZgsC w q gs cs) (hq : ∀ g, q g → g < w.heap.size) :
    Calls Tryz.prog 18 #[.int .u16 40, .int .u16 51, sv] w (ZPost w 40 51 (argsB [] gs 0 0)) := by
  obtain rfl : gs = [] := hpr
  obtain rfl : cs = [] := hz
  obtain ⟨A, c, rfl⟩ := own_shape hown
  refine (zz_exchangeUnbindOk A c).mono ?_
  rintro e w1 ⟨g, rfl, hg, hblk, hbel⟩
  refine ⟨171, g, 210, 213, rfl, hbel, ⟨fun w => by kernel_rfl, fun w => by kernel_rfl, fun w => by kernel_rfl, fun v w => by kernel_rfl, fun w' => calls_straight Tryz.func210 rfl (by kernel_rfl), fun w' B bb sv' xs h0 hB hb hBs hx => ?_⟩⟩
  have hblk' := hblk.below h0 hblk.lt
  have hcall := wr_exchangeUnbindOk (g := g) []  hblk' (by have := hblk.lt; omega) hb hBs hx 
  refine (Eq.subst (motive := fun z => Calls _ _ _ _ (Gave _ _ _ _ _ z)) ?_ hcall)
  clear hcall hblk' hbel h0 hb hblk hB hBs hx hg hown
  rfl

set_option maxRecDepth 100000 in
set_option maxHeartbeats 2000000 in
theorem zm_queueDeclare {w : World} {gs : List Ag} {H : Nat} {sv : Value} {cs : List Value} {q : Nat → Prop} (hpr : properF [49, 83, 98, 98, 98, 98, 98, 116] gs) (hok : ∀ a ∈ gs, a.ok ∧ a.fs.good none) (hown : w.ownsRow H 60 4 sv gs.length cs) (hz : ZgsC w q gs cs) (hq : ∀ g, q g → g < w.heap.size) :
    Calls Tryz.prog 18 #[.int .u16 50, .int .u16 10, sv] w (ZPost w 50 10 (argsB [49, 83, 98, 98, 98, 98, 98, 116] gs 0 0)) := by
  replace hpr := properF_lo (by decide) hpr
  obtain ⟨a0, g1, rfl, f0, hpr⟩ := properF_hi (by decide) hpr
  replace f0 : a0.k = 4 ∧ a0.t.size ≤ 255 := f0
  obtain ⟨a1, g2, rfl, f1, hpr⟩ := properF_hi (by decide) hpr
  replace f1 : a1.k = 6 ∧ a1.n ≤ 1 := f1
  obtain ⟨a2, g3, rfl, f2, hpr⟩ := properF_hi (by decide) hpr
  replace f2 : a2.k = 6 ∧ a2.n ≤ 1 := f2
  obtain ⟨a3, g4, rfl, f3, hpr⟩ := properF_hi (by decide) hpr
  replace f3 : a3.k = 6 ∧ a3.n ≤ 1 := f3
  obtain ⟨a4, g5, rfl, f4, hpr⟩ := properF_hi (by decide) hpr
  replace f4 : a4.k = 6 ∧ a4.n ≤ 1 := f4
  obtain ⟨a5, g6, rfl, f5, hpr⟩ := properF_hi (by decide) hpr
  replace f5 : a5.k = 6 ∧ a5.n ≤ 1 := f5
  obtain ⟨a6, g7, rfl, f6, hpr⟩ := properF_hi (by decide) hpr
  replace f6 : a6.k = 7 ∧ a6.fs.enc.length ≤ 20000 := f6
  obtain rfl : g7 = [] := hpr
  obtain ⟨o0, d0⟩ := hok a0 (by simp)
  obtain ⟨o1, d1⟩ := hok a1 (by simp)
  obtain ⟨o2, d2⟩ := hok a2 (by simp)
  obtain ⟨o3, d3⟩ := hok a3 (by simp)
  obtain ⟨o4, d4⟩ := hok a4 (by simp)
  obtain ⟨o5, d5⟩ := hok a5 (by simp)
  obtain ⟨o6, d6⟩ := hok a6 (by simp)
  obtain ⟨b0, cs0, rfl, T0, hz⟩ := hz
  obtain ⟨b1, cs1, rfl, T1, hz⟩ := hz
  obtain ⟨b2, cs2, rfl, T2, hz⟩ := hz
  obtain ⟨b3, cs3, rfl, T3, hz⟩ := hz
  obtain ⟨b4, cs4, rfl, T4, hz⟩ := hz
  obtain ⟨b5, cs5, rfl, T5, hz⟩ := hz
  obtain ⟨b6, cs6, rfl, T6, hz⟩ := hz
  obtain rfl : cs6 = [] := hz
  obtain ⟨k0, n0, t0, s0⟩ := a0
  obtain ⟨n0, rfl⟩ := Int.eq_ofNat_of_zero_le o0.2.1.1
  obtain ⟨rfl, e0⟩ : k0 = 4 ∧ _ := f0
  simp only at e0 d0 T0
  obtain ⟨k1, n1, t1, s1⟩ := a1
  obtain ⟨n1, rfl⟩ := Int.eq_ofNat_of_zero_le o1.2.1.1
  obtain ⟨rfl, e1⟩ : k1 = 6 ∧ _ := f1
  simp only at e1 d1 T1
  obtain ⟨k2, n2, t2, s2⟩ := a2
  obtain ⟨n2, rfl⟩ := Int.eq_ofNat_of_zero_le o2.2.1.1
  obtain ⟨rfl, e2⟩ : k2 = 6 ∧ _ := f2
  simp only at e2 d2 T2
  obtain ⟨k3, n3, t3, s3⟩ := a3
  obtain ⟨n3, rfl⟩ := Int.eq_ofNat_of_zero_le o3.2.1.1
  obtain ⟨rfl, e3⟩ : k3 = 6 ∧ _ := f3
  simp only at e3 d3 T3
  obtain ⟨k4, n4, t4, s4⟩ := a4
  obtain ⟨n4, rfl⟩ := Int.eq_ofNat_of_zero_le o4.2.1.1
  obtain ⟨rfl, e4⟩ : k4 = 6 ∧ _ := f4
  simp only at e4 d4 T4
  obtain ⟨k5, n5, t5, s5⟩ := a5
  obtain ⟨n5, rfl⟩ := Int.eq_ofNat_of_zero_le o5.2.1.1
  obtain ⟨rfl, e5⟩ : k5 = 6 ∧ _ := f5
  simp only at e5 d5 T5
  obtain ⟨k6, n6, t6, s6⟩ := a6
  obtain ⟨n6, rfl⟩ := Int.eq_ofNat_of_zero_le o6.2.1.1
  obtain ⟨rfl, e6⟩ : k6 = 7 ∧ _ := f6
  simp only at e6 d6 T6
  obtain ⟨r, c, rfl, hr, hc⟩ := own_cells hown (by simp)
  refine (zz_queueDeclare n0 n1 n2 n3 n4 n5 n6 t0 t1 t2 t3 t4 t5 t6 b0 b1 b2 b3 b4 b5 b6  hr hc).mono ?_
  rintro e w1 ⟨g, rfl, hg, hblk, hbel⟩
  refine ⟨173, g, 214, 217, rfl, hbel, ⟨fun w => by kernel_rfl, fun w => by kernel_rfl, fun w => by kernel_rfl, fun v w => by kernel_rfl, fun w' => calls_straight Tryz.func214 rfl (by kernel_rfl), fun w' B bb sv' xs h0 hB hb hBs hx => ?_⟩⟩
  have hblk' := hblk.below h0 hblk.lt
  have hcall := wr_queueDeclare (g := g) [] t0 ((n1 : Int) != 0) ((n2 : Int) != 0) ((n3 : Int) != 0) ((n4 : Int) != 0) ((n5 : Int) != 0) b6 s6 hblk' (by have := hblk.lt; omega) hb hBs hx e0 (T6.keep (q := fun g => g < B) (fun x hx => (h0.block x (by have := hq x hx; have := hbel.size; omega)).trans (hbel.block x (hq x hx))) (fun x hx => by have := hq x hx; have := hbel.size; omega)) d6 o6.2.2.2.1 e6
  have x1 : n1 = 0 ∨ n1 = 1 := by omega
  have x2 : n2 = 0 ∨ n2 = 1 := by omega
  have x3 : n3 = 0 ∨ n3 = 1 := by omega
  have x4 : n4 = 0 ∨ n4 = 1 := by omega
  have x5 : n5 = 0 ∨ n5 = 1 := by omega
  refine (Eq.subst (motive := fun z => Calls _ _ _ _ (Gave _ _ _ _ _ z)) ?_ hcall)
  clear hcall hblk' hbel h0 hb hblk hB hBs hx hg hown hr hc
  rcases x1 with rfl | rfl <;> rcases x2 with rfl | rfl <;> rcases x3 with rfl | rfl <;> rcases x4 with rfl | rfl <;> rcases x5 with rfl | rfl
  all_goals rw [argsB_low (by decide) (by decide), argsB_high (by decide) (by decide), argsB_98 rfl, argsB_98 rfl, argsB_98 rfl, argsB_98 rfl, argsB_98 rfl, argsB_high (by decide) (by decide)]
  all_goals simp [argB, flushB, argsB_nil, Ag.none, orBit, bitv, be1]

set_option maxRecDepth 100000 in
set_option maxHeartbeats 2000000 in
theorem zm_queueDeclareOk {w : World} {gs : List Ag} {H : Nat} {sv : Value} {cs : List Value} {q : Nat → Prop} (hpr : properF [83, 108, 108] gs) (hok : ∀ a ∈ gs, a.ok ∧ a.fs.good none) (hown : w.ownsRow H 60 4 sv gs.length cs) (hz : ZgsC w q gs cs) (hq : ∀ g, q g → g < w.heap.size) :
    Calls Tryz.prog 18 #[.int .u16 50, .int .u16 11, sv] w (ZPost w 50 11 (argsB [83, 108, 108] gs 0 0)) := by
  obtain ⟨a0, g1, rfl, f0, hpr⟩ := properF_hi (by decide) hpr
  replace f0 : a0.k = 4 ∧ a0.t.size ≤ 255 := f0
  obtain ⟨a1, g2, rfl, f1, hpr⟩ := properF_hi (by decide) hpr
  replace f1 : a1.k = 2 ∧ a1.n < 4294967296 := f1
  obtain ⟨a2, g3, rfl, f2, hpr⟩ := properF_hi (by decide) hpr
  replace f2 : a2.k = 2 ∧ a2.n < 4294967296 := f2
  obtain rfl : g3 = [] := hpr
  obtain ⟨o0, d0⟩ := hok a0 (by simp)
  obtain ⟨o1, d1⟩ := hok a1 (by simp)
  obtain ⟨o2, d2⟩ := hok a2 (by simp)
  obtain ⟨b0, cs0, rfl, T0, hz⟩ := hz
  obtain ⟨b1, cs1, rfl, T1, hz⟩ := hz
  obtain ⟨b2, cs2, rfl, T2, hz⟩ := hz
  obtain rfl : cs2 = [] := hz
  obtain ⟨k0, n0, t0, s0⟩ := a0
  obtain ⟨n0, rfl⟩ := Int.eq_ofNat_of_zero_le o0.2.1.1
  obtain ⟨rfl, e0⟩ : k0 = 4 ∧ _ := f0
  simp only at e0 d0 T0
  obtain ⟨k1, n1, t1, s1⟩ := a1
  obtain ⟨n1, rfl⟩ := Int.eq_ofNat_of_zero_le o1.2.1.1
  obtain ⟨rfl, e1⟩ : k1 = 2 ∧ _ := f1
  simp only at e1 d1 T1
  obtain ⟨k2, n2, t2, s2⟩ := a2
  obtain ⟨n2, rfl⟩ := Int.eq_ofNat_of_zero_le o2.2.1.1
  obtain ⟨rfl, e2⟩ : k2 = 2 ∧ _ := f2
  simp only at e2 d2 T2
  obtain ⟨r, c, rfl, hr, hc⟩ := own_cells hown (by simp)
  refine (zz_queueDeclareOk n0 n1 n2 t0 t1 t2 b0 b1 b2 (by omega) (by omega) hr hc).mono ?_
  rintro e w1 ⟨g, rfl, hg, hblk, hbel⟩
  refine ⟨176, g, 218, 221, rfl, hbel, ⟨fun w => by kernel_rfl, fun w => by kernel_rfl, fun w => by kernel_rfl, fun v w => by kernel_rfl, fun w' => calls_straight Tryz.func218 rfl (by kernel_rfl), fun w' B bb sv' xs h0 hB hb hBs hx => ?_⟩⟩
  have hblk' := hblk.below h0 hblk.lt
  have hcall := wr_queueDeclareOk (g := g) [] t0 n1 n2 hblk' (by have := hblk.lt; omega) hb hBs hx e0 (by omega) (by omega)
  refine (Eq.subst (motive := fun z => Calls _ _ _ _ (Gave _ _ _ _ _ z)) ?_ hcall)
  clear hcall hblk' hbel h0 hb hblk hB hBs hx hg hown hr hc
  rw [argsB_high (by decide) (by decide), argsB_high (by decide) (by decide), argsB_high (by decide) (by decide)]
  simp [argB, flushB, argsB_nil]

set_option maxRecDepth 100000 in
set_option maxHeartbeats 2000000 in
theorem zm_queueBind {w : World} {gs : List Ag} {H : Nat} {sv : Value} {cs : List Value} {q : Nat → Prop} (hpr : properF [49, 83, 83, 83, 98, 116] gs) (hok : ∀ a ∈ gs, a.ok ∧ a.fs.good none) (hown : w.ownsRow H 60 4 sv gs.length cs) (hz : ZgsC w q gs cs) (hq : ∀ g, q g → g < w.heap.size) :
    Calls Tryz.prog 18 #[.int .u16 50, .int .u16 20, sv] w (ZPost w 50 20 (argsB [49, 83, 83, 83, 98, 116] gs 0 0)) := by
  replace hpr := properF_lo (by decide) hpr
  obtain ⟨a0, g1, rfl, f0, hpr⟩ := properF_hi (by decide) hpr
  replace f0 : a0.k = 4 ∧ a0.t.size ≤ 255 := f0
  obtain ⟨a1, g2, rfl, f1, hpr⟩ := properF_hi (by decide) hpr
  replace f1 : a1.k = 4 ∧ a1.t.size ≤ 255 := f1
  obtain ⟨a2, g3, rfl, f2, hpr⟩ := properF_hi (by decide) hpr
  replace f2 : a2.k = 4 ∧ a2.t.size ≤ 255 := f2
  obtain ⟨a3, g4, rfl, f3, hpr⟩ := properF_hi (by decide) hpr
  replace f3 : a3.k = 6 ∧ a3.n ≤ 1 := f3
  obtain ⟨a4, g5, rfl, f4, hpr⟩ := properF_hi (by decide) hpr
  replace f4 : a4.k = 7 ∧ a4.fs.enc.length ≤ 20000 := f4
  obtain rfl : g5 = [] := hpr
  obtain ⟨o0, d0⟩ := hok a0 (by simp)
  obtain ⟨o1, d1⟩ := hok a1 (by simp)
  obtain ⟨o2, d2⟩ := hok a2 (by simp)
  obtain ⟨o3, d3⟩ := hok a3 (by simp)
  obtain ⟨o4, d4⟩ := hok a4 (by simp)
  obtain ⟨b0, cs0, rfl, T0, hz⟩ := hz
  obtain ⟨b1, cs1, rfl, T1, hz⟩ := hz
  obtain ⟨b2, cs2, rfl, T2, hz⟩ := hz
  obtain ⟨b3, cs3, rfl, T3, hz⟩ := hz
  obtain ⟨b4, cs4, rfl, T4, hz⟩ := hz
  obtain rfl : cs4 = [] := hz
  obtain ⟨k0, n0, t0, s0⟩ := a0
  obtain ⟨n0, rfl⟩ := Int.eq_ofNat_of_zero_le o0.2.1.1
  obtain ⟨rfl, e0⟩ : k0 = 4 ∧ _ := f0
  simp only at e0 d0 T0
  obtain ⟨k1, n1, t1, s1⟩ := a1
  obtain ⟨n1, rfl⟩ := Int.eq_ofNat_of_zero_le o1.2.1.1
  obtain ⟨rfl, e1⟩ : k1 = 4 ∧ _ := f1
  simp only at e1 d1 T1
  obtain ⟨k2, n2, t2, s2⟩ := a2
  obtain ⟨n2, rfl⟩ := Int.eq_ofNat_of_zero_le o2.2.1.1
  obtain ⟨rfl, e2⟩ : k2 = 4 ∧ _ := f2
  simp only at e2 d2 T2
  obtain ⟨k3, n3, t3, s3⟩ := a3
  obtain ⟨n3, rfl⟩ := Int.eq_ofNat_of_zero_le o3.2.1.1
  obtain ⟨rfl, e3⟩ : k3 = 6 ∧ _ := f3
  simp only at e3 d3 T3
  obtain ⟨k4, n4, t4, s4⟩ := a4
  obtain ⟨n4, rfl⟩ := Int.eq_ofNat_of_zero_le o4.2.1.1
  obtain ⟨rfl, e4⟩ : k4 = 7 ∧ _ := f4
  simp only at e4 d4 T4
  obtain ⟨r, c, rfl, hr, hc⟩ := own_cells hown (by simp)
  refine (zz_queueBind n0 n1 n2 n3 n4 t0 t1 t2 t3 t4 b0 b1 b2 b3 b4  hr hc).mono ?_
  rintro e w1 ⟨g, rfl, hg, hblk, hbel⟩
  refine ⟨179, g, 222, 225, rfl, hbel, ⟨fun w => by kernel_rfl, fun w => by kernel_rfl, fun w => by kernel_rfl, fun v w => by kernel_rfl, fun w' => calls_straight Tryz.func222 rfl (by kernel_rfl), fun w' B bb sv' xs h0 hB hb hBs hx => ?_⟩⟩
  have hblk' := hblk.below h0 hblk.lt
  have hcall := wr_queueBind (g := g) [] t0 t1 t2 ((n3 : Int) != 0) b4 s4 hblk' (by have := hblk.lt; omega) hb hBs hx e0 e1 e2 (T4.keep (q := fun g => g < B) (fun x hx => (h0.block x (by have := hq x hx; have := hbel.size; omega)).trans (hbel.block x (hq x hx))) (fun x hx => by have := hq x hx; have := hbel.size; omega)) d4 o4.2.2.2.1 e4
  have x3 : n3 = 0 ∨ n3 = 1 := by omega
  refine (Eq.subst (motive := fun z => Calls _ _ _ _ (Gave _ _ _ _ _ z)) ?_ hcall)
  clear hcall hblk' hbel h0 hb hblk hB hBs hx hg hown hr hc
  rcases x3 with rfl | rfl
  all_goals rw [argsB_low (by decide) (by decide), argsB_high (by decide) (by decide), argsB_high (by decide) (by decide), argsB_high (by decide) (by decide), argsB_98 rfl, argsB_high (by decide) (by decide)]
  all_goals simp [argB, flushB, argsB_nil, Ag.none, orBit, bitv, be1]

set_option maxRecDepth 100000 in
set_option maxHeartbeats 2000000 in
theorem zm_queueBindOk {w : World} {gs : List Ag} {H : Nat} {sv : Value} {cs : List Value} {q : Nat → Prop} (hpr : properF [] gs) (hok : ∀ a ∈ gs, a.ok ∧ a.fs.good none) (hown : w.ownsRow H 60 4 sv gs.length cs) (hz : ZgsC w q gs cs) (hq : ∀ g, q g → g < w.heap.size) :
    Calls Tryz.prog 18 #[.int .u16 50, .int .u16 21, sv] w (ZPost w 50 21 (argsB [] gs 0 0)) := by
  obtain rfl : gs = [] := hpr
  obtain rfl : cs = [] := hz
  obtain ⟨A, c, rfl⟩ := own_shape hown
  refine (zz_queueBindOk A c).mono ?_
  rintro e w1 ⟨g, rfl, hg, hblk, hbel⟩
  refine ⟨182, g, 226, 229, rfl, hbel, ⟨fun w => by kernel_rfl, fun w => by kernel_rfl, fun w => by kernel_rfl, fun v w => by kernel_rfl, fun w' => calls_straight Tryz.func226 rfl (by kernel_rfl), fun w' B bb sv' xs h0 hB hb hBs hx => ?_⟩⟩
  have hblk' := hblk.below h0 hblk.lt
  have hcall := wr_queueBindOk (g := g) []  hblk' (by have := hblk.lt; omega) hb hBs hx 
  refine (Eq.subst (motive := fun z => Calls _ _ _ _ (Gave _ _ _ _ _ z)) ?_ hcall)
  clear hcall hblk' hbel h0 hb hblk hB hBs hx hg hown
  rfl

end Go.Proofs.YtabeppaehenefaaGreat

namespace Go.Proofs.YtabeppaehenefaaGreat
open Go.RowKit
set_option linter.unusedVariables false

set_option maxRecDepth 100000 in
set_option maxHeartbeats 2000000 in
theorem zm_queueUnbind {w : World} {gs : List Ag} {H : Nat} {sv : Value} {cs : List Value} {q : Nat → Prop} (hpr : properF [49, 83, 83, 83, 116] gs) (hok : ∀ a ∈ gs, a.ok ∧ a.fs.good none) (hown : w.ownsRow H 60 4 sv gs.length cs) (hz : ZgsC w q gs cs) (hq : ∀ g, q g → g < w.heap.size) :
    Calls Tryz.prog 18 #[.int .u16 50, .int .u16 50, sv] w (ZPost w 50 50 (argsB [49, 83, 83, 83, 116] gs 0 0)) := by
  replace hpr := properF_lo (by decide) hpr
  obtain ⟨a0, g1, rfl, f0, hpr⟩ := properF_hi (by decide) hpr
  replace f0 : a0.k = 4 ∧ a0.t.size ≤ 255 := f0
  obtain ⟨a1, g2, rfl, f1, hpr⟩ := properF_hi (by decide) hpr
  replace f1 : a1.k = 4 ∧ a1.t.size ≤ 255 := f1
  obtain ⟨a2, g3, rfl, f2, hpr⟩ := properF_hi (by decide) hpr
  replace f2 : a2.k = 4 ∧ a2.t.size ≤ 255 := f2
  obtain ⟨a3, g4, rfl, f3, hpr⟩ := properF_hi (by decide) hpr
  replace f3 : a3.k = 7 ∧ a3.fs.enc.length ≤ 20000 := f3
  obtain rfl : g4 = [] := hpr
  obtain ⟨o0, d0⟩ := hok a0 (by simp)
  obtain ⟨o1, d1⟩ := hok a1 (by simp)
  obtain ⟨o2, d2⟩ := hok a2 (by simp)
  obtain ⟨o3, d3⟩ := hok a3 (by simp)
  obtain ⟨b0, cs0, rfl, T0, hz⟩ := hz
  obtain ⟨b1, cs1, rfl, T1, hz⟩ := hz
  obtain ⟨b2, cs2, rfl, T2, hz⟩ := hz
  obtain ⟨b3, cs3, rfl, T3, hz⟩ := hz
  obtain rfl : cs3 = [] := hz
  obtain ⟨k0, n0, t0, s0⟩ := a0
  obtain ⟨n0, rfl⟩ := Int.eq_ofNat_of_zero_le o0.2.1.1
  obtain ⟨rfl, e0⟩ : k0 = 4 ∧ _ := f0
  simp only at e0 d0 T0
  obtain ⟨k1, n1, t1, s1⟩ := a1
  obtain ⟨n1, rfl⟩ := Int.eq_ofNat_of_zero_le o1.2.1.1
  obtain ⟨rfl, e1⟩ : k1 = 4 ∧ _ := f1
  simp only at e1 d1 T1
  obtain ⟨k2, n2, t2, s2⟩ := a2
  obtain ⟨n2, rfl⟩ := Int.eq_ofNat_of_zero_le o2.2.1.1
  obtain ⟨rfl, e2⟩ : k2 = 4 ∧ _ := f2
  simp only at e2 d2 T2
  obtain ⟨k3, n3, t3, s3⟩ := a3
  obtain ⟨n3, rfl⟩ := Int.eq_ofNat_of_zero_le o3.2.1.1
  obtain ⟨rfl, e3⟩ : k3 = 7 ∧ _ := f3
  simp only at e3 d3 T3
  obtain ⟨r, c, rfl, hr, hc⟩ := own_cells hown (by simp)
  refine (zz_queueUnbind n0 n1 n2 n3 t0 t1 t2 t3 b0 b1 b2 b3  hr hc).mono ?_
  rintro e w1 ⟨g, rfl, hg, hblk, hbel⟩
  refine ⟨184, g, 230, 233, rfl, hbel, ⟨fun w => by kernel_rfl, fun w => by kernel_rfl, fun w => by kernel_rfl, fun v w => by kernel_rfl, fun w' => calls_straight Tryz.func230 rfl (by kernel_rfl), fun w' B bb sv' xs h0 hB hb hBs hx => ?_⟩⟩
  have hblk' := hblk.below h0 hblk.lt
  have hcall := wr_queueUnbind (g := g) [] t0 t1 t2 b3 s3 hblk' (by have := hblk.lt; omega) hb hBs hx e0 e1 e2 (T3.keep (q := fun g => g < B) (fun x hx => (h0.block x (by have := hq x hx; have := hbel.size; omega)).trans (hbel.block x (hq x hx))) (fun x hx => by have := hq x hx; have := hbel.size; omega)) d3 o3.2.2.2.1 e3
  refine (Eq.subst (motive := fun z => Calls _ _ _ _ (Gave _ _ _ _ _ z)) ?_ hcall)
  clear hcall hblk' hbel h0 hb hblk hB hBs hx hg hown hr hc
  rw [argsB_low (by decide) (by decide), argsB_high (by decide) (by decide), argsB_high (by decide) (by decide), argsB_high (by decide) (by decide), argsB_high (by decide) (by decide)]
  simp [argB, flushB, argsB_nil, Ag.none]

set_option maxRecDepth 100000 in
set_option maxHeartbeats 2000000 in
theorem zm_queueUnbindOk {w : World} {gs : List Ag} {H : Nat} {sv : Value} {cs : List Value} {q : Nat → Prop} (hpr : properF [] gs) (hok : ∀ a ∈ gs, a.ok ∧ a.fs.good none) (hown : w.ownsRow H 60 4 sv gs.length cs) (hz : ZgsC w q gs cs) (hq : ∀ g, q g → g < w.heap.size) :
    Calls Tryz.prog 18 #[.int .u16 50, .int .u16 51, sv] w (ZPost w 50 51 (argsB [] gs 0 0)) := by
  obtain rfl : gs = [] := hpr
  obtain rfl : cs = [] := hz
  obtain ⟨A, c, rfl⟩ := own_shape hown
  refine (zz_queueUnbindOk A c).mono ?_
  rintro e w1 ⟨g, rfl, hg, hblk, hbel⟩
  refine ⟨187, g, 234, 237, rfl, hbel, ⟨fun w => by kernel_rfl, fun w => by kernel_rfl, fun w => by kernel_rfl, fun v w => by kernel_rfl, fun w' => calls_straight Tryz.func234 rfl (by kernel_rfl), fun w' B bb sv' xs h0 hB hb hBs hx => ?_⟩⟩
  have hblk' := hblk.below h0 hblk.lt
  have hcall := wr_queueUnbindOk (g := g) []  hblk' (by have := hblk.lt; omega) hb hBs hx 
  refine (Eq.subst (motive := fun z => Calls _ _ _ _ (Gave _ _ _ _ _ z)) ?_ hcall)
  clear hcall hblk' hbel h0 hb hblk hB hBs hx hg hown
  rfl

set_option maxRecDepth 100000 in
set_option maxHeartbeats 2000000 in
theorem zm_queuePurge {w : World} {gs : List Ag} {H : Nat} {sv : Value} {cs : List Value} {q : Nat → Prop} (hpr : properF [49, 83, 98] gs) (hok : ∀ a ∈ gs, a.ok ∧ a.fs.good none) (hown : w.ownsRow H 60 4 sv gs.length cs) (hz : ZgsC w q gs cs) (hq : ∀ g, q g → g < w.heap.size) :
    Calls Tryz.prog 18 #[.int .u16 50, .int .u16 30, sv] w (ZPost w 50 30 (argsB [49, 83, 98] gs 0 0)) := by
  replace hpr := properF_lo (by decide) hpr
  obtain ⟨a0, g1, rfl, f0, hpr⟩ := properF_hi (by decide) hpr
  replace f0 : a0.k = 4 ∧ a0.t.size ≤ 255 := f0
  obtain ⟨a1, g2, rfl, f1, hpr⟩ := properF_hi (by decide) hpr
  replace f1 : a1.k = 6 ∧ a1.n ≤ 1 := f1
  obtain rfl : g2 = [] := hpr
  obtain ⟨o0, d0⟩ := hok a0 (by simp)
  obtain ⟨o1, d1⟩ := hok a1 (by simp)
  obtain ⟨b0, cs0, rfl, T0, hz⟩ := hz
  obtain ⟨b1, cs1, rfl, T1, hz⟩ := hz
  obtain rfl : cs1 = [] := hz
  obtain ⟨k0, n0, t0, s0⟩ := a0
  obtain ⟨n0, rfl⟩ := Int.eq_ofNat_of_zero_le o0.2.1.1
  obtain ⟨rfl, e0⟩ : k0 = 4 ∧ _ := f0
  simp only at e0 d0 T0
  obtain ⟨k1, n1, t1, s1⟩ := a1
  obtain ⟨n1, rfl⟩ := Int.eq_ofNat_of_zero_le o1.2.1.1
  obtain ⟨rfl, e1⟩ : k1 = 6 ∧ _ := f1
  simp only at e1 d1 T1
  obtain ⟨r, c, rfl, hr, hc⟩ := own_cells hown (by simp)
  refine (zz_queuePurge n0 n1 t0 t1 b0 b1  hr hc).mono ?_
  rintro e w1 ⟨g, rfl, hg, hblk, hbel⟩
  refine ⟨189, g, 238, 241, rfl, hbel, ⟨fun w => by kernel_rfl, fun w => by kernel_rfl, fun w => by kernel_rfl, fun v w => by kernel_rfl, fun w' => calls_straight Tryz.func238 rfl (by kernel_rfl), fun w' B bb sv' xs h0 hB hb hBs hx => ?_⟩⟩
  have hblk' := hblk.below h0 hblk.lt
  have hcall := wr_queuePurge (g := g) [] t0 ((n1 : Int) != 0) hblk' (by have := hblk.lt; omega) hb hBs hx e0
  have x1 : n1 = 0 ∨ n1 = 1 := by omega
  refine (Eq.subst (motive := fun z => Calls _ _ _ _ (Gave _ _ _ _ _ z)) ?_ hcall)
  clear hcall hblk' hbel h0 hb hblk hB hBs hx hg hown hr hc
  rcases x1 with rfl | rfl
  all_goals rw [argsB_low (by decide) (by decide), argsB_high (by decide) (by decide), argsB_98 rfl]
  all_goals simp [argB, flushB, argsB_nil, Ag.none, orBit, bitv, be1]

set_option maxRecDepth 100000 in
set_option maxHeartbeats 2000000 in
theorem zm_queuePurgeOk {w : World} {gs : List Ag} {H : Nat} {sv : Value} {cs : List Value} {q : Nat → Prop} (hpr : properF [108] gs) (hok : ∀ a ∈ gs, a.ok ∧ a.fs.good none) (hown : w.ownsRow H 60 4 sv gs.length cs) (hz : ZgsC w q gs cs) (hq : ∀ g, q g → g < w.heap.size) :
    Calls Tryz.prog 18 #[.int .u16 50, .int .u16 31, sv] w (ZPost w 50 31 (argsB [108] gs 0 0)) := by
  obtain ⟨a0, g1, rfl, f0, hpr⟩ := properF_hi (by decide) hpr
  replace f0 : a0.k = 2 ∧ a0.n < 4294967296 := f0
  obtain rfl : g1 = [] := hpr
  obtain ⟨o0, d0⟩ := hok a0 (by simp)
  obtain ⟨b0, cs0, rfl, T0, hz⟩ := hz
  obtain rfl : cs0 = [] := hz
  obtain ⟨k0, n0, t0, s0⟩ := a0
  obtain ⟨n0, rfl⟩ := Int.eq_ofNat_of_zero_le o0.2.1.1
  obtain ⟨rfl, e0⟩ : k0 = 2 ∧ _ := f0
  simp only at e0 d0 T0
  obtain ⟨r, c, rfl, hr, hc⟩ := own_cells hown (by simp)
  refine (zz_queuePurgeOk n0 t0 b0 (by omega) hr hc).mono ?_
  rintro e w1 ⟨g, rfl, hg, hblk, hbel⟩
  refine ⟨192, g, 242, 245, rfl, hbel, ⟨fun w => by kernel_rfl, fun w => by kernel_rfl, fun w => by kernel_rfl, fun v w => by kernel_rfl, fun w' => calls_straight Tryz.func242 rfl (by kernel_rfl), fun w' B bb sv' xs h0 hB hb hBs hx => ?_⟩⟩
  have hblk' := hblk.below h0 hblk.lt
  have hcall := wr_queuePurgeOk (g := g) [] n0 hblk' (by have := hblk.lt; omega) hb hBs hx (by omega)
  refine (Eq.subst (motive := fun z => Calls _ _ _ _ (Gave _ _ _ _ _ z)) ?_ hcall)
  clear hcall hblk' hbel h0 hb hblk hB hBs hx hg hown hr hc
  rw [argsB_high (by decide) (by decide)]
  simp [argB, flushB, argsB_nil]

set_option maxRecDepth 100000 in
set_option maxHeartbeats 2000000 in
theorem zm_queueDelete {w : World} {gs : List Ag} {H : Nat} {sv : Value} {cs : List Value} {q : Nat → Prop} (hpr : properF [49, 83, 98, 98, 98] gs) (hok : ∀ a ∈ gs, a.ok ∧ a.fs.good none) (hown : w.ownsRow H 60 4 sv gs.length cs) (hz : ZgsC w q gs cs) (hq : ∀ g, q g → g < w.heap.size) :
    Calls Tryz.prog 18 #[.int .u16 50, .int .u16 40, sv] w (ZPost w 50 40 (argsB [49, 83, 98, 98, 98] gs 0 0)) := by
  replace hpr := properF_lo (by decide) hpr
  obtain ⟨a0, g1, rfl, f0, hpr⟩ := properF_hi (by decide) hpr
  replace f0 : a0.k = 4 ∧ a0.t.size ≤ 255 := f0
  obtain ⟨a1, g2, rfl, f1, hpr⟩ := properF_hi (by decide) hpr
  replace f1 : a1.k = 6 ∧ a1.n ≤ 1 := f1
  obtain ⟨a2, g3, rfl, f2, hpr⟩ := properF_hi (by decide) hpr
  replace f2 : a2.k = 6 ∧ a2.n ≤ 1 := f2
  obtain ⟨a3, g4, rfl, f3, hpr⟩ := properF_hi (by decide) hpr
  replace f3 : a3.k = 6 ∧ a3.n ≤ 1 := f3
  obtain rfl : g4 = [] := hpr
  obtain ⟨o0, d0⟩ := hok a0 (by simp)
  obtain ⟨o1, d1⟩ := hok a1 (by simp)
  obtain ⟨o2, d2⟩ := hok a2 (by simp)
  obtain ⟨o3, d3⟩ := hok a3 (by simp)
  obtain ⟨b0, cs0, rfl, T0, hz⟩ := hz
  obtain ⟨b1, cs1, rfl, T1, hz⟩ := hz
  obtain ⟨b2, cs2, rfl, T2, hz⟩ := hz
  obtain ⟨b3, cs3, rfl, T3, hz⟩ := hz
  obtain rfl : cs3 = [] := hz
  obtain ⟨k0, n0, t0, s0⟩ := a0
  obtain ⟨n0, rfl⟩ := Int.eq_ofNat_of_zero_le o0.2.1.1
  obtain ⟨rfl, e0⟩ : k0 = 4 ∧ _ := f0
  simp only at e0 d0 T0
  obtain ⟨k1, n1, t1, s1⟩ := a1
  obtain ⟨n1, rfl⟩ := Int.eq_ofNat_of_zero_le o1.2.1.1
  obtain ⟨rfl, e1⟩ : k1 = 6 ∧ _ := f1
  simp only at e1 d1 T1
  obtain ⟨k2, n2, t2, s2⟩ := a2
  obtain ⟨n2, rfl⟩ := Int.eq_ofNat_of_zero_le o2.2.1.1
  obtain ⟨rfl, e2⟩ : k2 = 6 ∧ _ := f2
  simp only at e2 d2 T2
  obtain ⟨k3, n3, t3, s3⟩ := a3
  obtain ⟨n3, rfl⟩ := Int.eq_ofNat_of_zero_le o3.2.1.1
  obtain ⟨rfl, e3⟩ : k3 = 6 ∧ _ := f3
  simp only at e3 d3 T3
  obtain ⟨r, c, rfl, hr, hc⟩ := own_cells hown (by simp)
  refine (zz_queueDelete n0 n1 n2 n3 t0 t1 t2 t3 b0 b1 b2 b3  hr hc).mono ?_
  rintro e w1 ⟨g, rfl, hg, hblk, hbel⟩
  refine ⟨195, g, 246, 249, rfl, hbel, ⟨fun w => by kernel_rfl, fun w => by kernel_rfl, fun w => by kernel_rfl, fun v w => by kernel_rfl, fun w' => calls_straight Tryz.func246 rfl (by kernel_rfl), fun w' B bb sv' xs h0 hB hb hBs hx => ?_⟩⟩
  have hblk' := hblk.below h0 hblk.lt
  have hcall := wr_queueDelete (g := g) [] t0 ((n1 : Int) != 0) ((n2 : Int) != 0) ((n3 : Int) != 0) hblk' (by have := hblk.lt; omega) hb hBs hx e0
  have x1 : n1 = 0 ∨ n1 = 1 := by omega
  have x2 : n2 = 0 ∨ n2 = 1 := by omega
  have x3 : n3 = 0 ∨ n3 = 1 := by omega
  refine (Eq.subst (motive := fun z => Calls _ _ _ _ (Gave _ _ _ _ _ z)) ?_ hcall)
  clear hcall hblk' hbel h0 hb hblk hB hBs hx hg hown hr hc
  rcases x1 with rfl | rfl <;> rcases x2 with rfl | rfl <;> rcases x3 with rfl | rfl
  all_goals rw [argsB_low (by decide) (by decide), argsB_high (by decide) (by decide), argsB_98 rfl, argsB_98 rfl, argsB_98 rfl]
  all_goals simp [argB, flushB, argsB_nil, Ag.none, orBit, bitv, be1]

set_option maxRecDepth 100000 in
set_option maxHeartbeats 2000000 in
theorem zm_queueDeleteOk {w : World} {gs : List Ag} {H : Nat} {sv : Value} {cs : List Value} {q : Nat → Prop} (hpr : properF [108] gs) (hok : ∀ a ∈ gs, a.ok ∧ a.fs.good none) (hown : w.ownsRow H 60 4 sv gs.length cs) (hz : ZgsC w q gs cs) (hq : ∀ g, q g → g < w.heap.size) :
    Calls Tryz.prog 18 #[.int .u16 50, .int .u16 41, sv] w (ZPost w 50 41 (argsB [108] gs 0 0)) := by
  obtain ⟨a0, g1, rfl, f0, hpr⟩ := properF_hi (by decide) hpr
  replace f0 : a0.k = 2 ∧ a0.n < 4294967296 := f0
  obtain rfl : g1 = [] := hpr
  obtain ⟨o0, d0⟩ := hok a0 (by simp)
  obtain ⟨b0, cs0, rfl, T0, hz⟩ := hz
  obtain rfl : cs0 = [] := hz
  obtain ⟨k0, n0, t0, s0⟩ := a0
  obtain ⟨n0, rfl⟩ := Int.eq_ofNat_of_zero_le o0.2.1.1
  obtain ⟨rfl, e0⟩ : k0 = 2 ∧ _ := f0
  simp only at e0 d0 T0
  obtain ⟨r, c, rfl, hr, hc⟩ := own_cells hown (by simp)
  refine (zz_queueDeleteOk n0 t0 b0 (by omega) hr hc).mono ?_
  rintro e w1 ⟨g, rfl, hg, hblk, hbel⟩
  refine ⟨198, g, 250, 253, rfl, hbel, ⟨fun w => by kernel_rfl, fun w => by kernel_rfl, fun w => by kernel_rfl, fun v w => by kernel_rfl, fun w' => calls_straight Tryz.func250 rfl (by kernel_rfl), fun w' B bb sv' xs h0 hB hb hBs hx => ?_⟩⟩
  have hblk' := hblk.below h0 hblk.lt
  have hcall := wr_queueDeleteOk (g := g) [] n0 hblk' (by have := hblk.lt; omega) hb hBs hx (by omega)
  refine (Eq.subst (motive := fun z => Calls _ _ _ _ (Gave _ _ _ _ _ z)) ?_ hcall)
  clear hcall hblk' hbel h0 hb hblk hB hBs hx hg hown hr hc
  rw [argsB_high (by decide) (by decide)]
  simp [argB, flushB, argsB_nil]

set_option maxRecDepth 100000 in
set_option maxHeartbeats 2000000 in
theorem zm_basicQos {w : World} {gs : List Ag} {H : Nat} {sv : Value} {cs : List Value} {q : Nat → Prop} (hpr : properF [108, 115, 98] gs) (hok : ∀ a ∈ gs, a.ok ∧ a.fs.good none) (hown : w.ownsRow H 60 4 sv gs.length cs) (hz : ZgsC w q gs cs) (hq : ∀ g, q g → g < w.heap.size) :
    Calls Tryz.prog 18 #[.int .u16 60, .int .u16 10, sv] w (ZPost w 60 10 (argsB [108, 115, 98] gs 0 0)) := by
  obtain ⟨a0, g1, rfl, f0, hpr⟩ := properF_hi (by decide) hpr
  replace f0 : a0.k = 2 ∧ a0.n < 4294967296 := f0
  obtain ⟨a1, g2, rfl, f1, hpr⟩ := properF_hi (by decide) hpr
  replace f1 : a1.k = 1 ∧ a1.n < 65536 := f1
  obtain ⟨a2, g3, rfl, f2, hpr⟩ := properF_hi (by decide) hpr
  replace f2 : a2.k = 6 ∧ a2.n ≤ 1 := f2
  obtain rfl : g3 = [] := hpr
  obtain ⟨o0, d0⟩ := hok a0 (by simp)
  obtain ⟨o1, d1⟩ := hok a1 (by simp)
  obtain ⟨o2, d2⟩ := hok a2 (by simp)
  obtain ⟨b0, cs0, rfl, T0, hz⟩ := hz
  obtain ⟨b1, cs1, rfl, T1, hz⟩ := hz
  obtain ⟨b2, cs2, rfl, T2, hz⟩ := hz
  obtain rfl : cs2 = [] := hz
  obtain ⟨k0, n0, t0, s0⟩ := a0
  obtain ⟨n0, rfl⟩ := Int.eq_ofNat_of_zero_le o0.2.1.1
  obtain ⟨rfl, e0⟩ : k0 = 2 ∧ _ := f0
  simp only at e0 d0 T0
  obtain ⟨k1, n1, t1, s1⟩ := a1
  obtain ⟨n1, rfl⟩ := Int.eq_ofNat_of_zero_le o1.2.1.1
  obtain ⟨rfl, e1⟩ : k1 = 1 ∧ _ := f1
  simp only at e1 d1 T1
  obtain ⟨k2, n2, t2, s2⟩ := a2
  obtain ⟨n2, rfl⟩ := Int.eq_ofNat_of_zero_le o2.2.1.1
  obtain ⟨rfl, e2⟩ : k2 = 6 ∧ _ := f2
  simp only at e2 d2 T2
  obtain ⟨r, c, rfl, hr, hc⟩ := own_cells hown (by simp)
  refine (zz_basicQos n0 n1 n2 t0 t1 t2 b0 b1 b2 (by omega) (by omega) hr hc).mono ?_
  rintro e w1 ⟨g, rfl, hg, hblk, hbel⟩
  refine ⟨200, g, 254, 257, rfl, hbel, ⟨fun w => by kernel_rfl, fun w => by kernel_rfl, fun w => by kernel_rfl, fun v w => by kernel_rfl, fun w' => calls_straight Tryz.func254 rfl (by kernel_rfl), fun w' B bb sv' xs h0 hB hb hBs hx => ?_⟩⟩
  have hblk' := hblk.below h0 hblk.lt
  have hcall := wr_basicQos (g := g) [] n0 n1 ((n2 : Int) != 0) hblk' (by have := hblk.lt; omega) hb hBs hx (by omega) (by omega)
  have x2 : n2 = 0 ∨ n2 = 1 := by omega
  refine (Eq.subst (motive := fun z => Calls _ _ _ _ (Gave _ _ _ _ _ z)) ?_ hcall)
  clear hcall hblk' hbel h0 hb hblk hB hBs hx hg hown hr hc
  rcases x2 with rfl | rfl
  all_goals rw [argsB_high (by decide) (by decide), argsB_high (by decide) (by decide), argsB_98 rfl]
  all_goals simp [argB, flushB, argsB_nil, orBit, bitv, be1]

set_option maxRecDepth 100000 in
set_option maxHeartbeats 2000000 in
theorem zm_basicQosOk {w : World} {gs : List Ag} {H : Nat} {sv : Value} {cs : List Value} {q : Nat → Prop} (hpr : properF [] gs) (hok : ∀ a ∈ gs, a.ok ∧ a.fs.good none) (hown : w.ownsRow H 60 4 sv gs.length cs) (hz : ZgsC w q gs cs) (hq : ∀ g, q g → g < w.heap.size) :
    Calls Tryz.prog 18 #[.int .u16 60, .int .u16 11, sv] w (ZPost w 60 11 (argsB [] gs 0 0)) := by
  obtain rfl : gs = [] := hpr
  obtain rfl : cs = [] := hz
  obtain ⟨A, c, rfl⟩ := own_shape hown
  refine (zz_basicQosOk A c).mono ?_
  rintro e w1 ⟨g, rfl, hg, hblk, hbel⟩
  refine ⟨203, g, 258, 261, rfl, hbel, ⟨fun w => by kernel_rfl, fun w => by kernel_rfl, fun w => by kernel_rfl, fun v w => by kernel_rfl, fun w' => calls_straight Tryz.func258 rfl (by kernel_rfl), fun w' B bb sv' xs h0 hB hb hBs hx => ?_⟩⟩
  have hblk' := hblk.below h0 hblk.lt
  have hcall := wr_basicQosOk (g := g) []  hblk' (by have := hblk.lt; omega) hb hBs hx 
  refine (Eq.subst (motive := fun z => Calls _ _ _ _ (Gave _ _ _ _ _ z)) ?_ hcall)
  clear hcall hblk' hbel h0 hb hblk hB hBs hx hg hown
  rfl

set_option maxRecDepth 100000 in
set_option maxHeartbeats 2000000 in
theorem zm_basicConsume {w : World} {gs : List Ag} {H : Nat} {sv : Value} {cs : List Value} {q : Nat → Prop} (hpr : properF [49, 83, 83, 98, 98, 98, 98, 116] gs) (hok : ∀ a ∈ gs, a.ok ∧ a.fs.good none) (hown : w.ownsRow H 60 4 sv gs.length cs) (hz : ZgsC w q gs cs) (hq : ∀ g, q g → g < w.heap.size) :
    Calls Tryz.prog 18 #[.int .u16 60, .int .u16 20, sv] w (ZPost w 60 20 (argsB [49, 83, 83, 98, 98, 98, 98, 116] gs 0 0)) := by
  replace hpr := properF_lo (by decide) hpr
  obtain ⟨a0, g1, rfl, f0, hpr⟩ := properF_hi (by decide) hpr
  replace f0 : a0.k = 4 ∧ a0.t.size ≤ 255 := f0
  obtain ⟨a1, g2, rfl, f1, hpr⟩ := properF_hi (by decide) hpr
  replace f1 : a1.k = 4 ∧ a1.t.size ≤ 255 := f1
  obtain ⟨a2, g3, rfl, f2, hpr⟩ := properF_hi (by decide) hpr
  replace f2 : a2.k = 6 ∧ a2.n ≤ 1 := f2
  obtain ⟨a3, g4, rfl, f3, hpr⟩ := properF_hi (by decide) hpr
  replace f3 : a3.k = 6 ∧ a3.n ≤ 1 := f3
  obtain ⟨a4, g5, rfl, f4, hpr⟩ := properF_hi (by decide) hpr
  replace f4 : a4.k = 6 ∧ a4.n ≤ 1 := f4
  obtain ⟨a5, g6, rfl, f5, hpr⟩ := properF_hi (by decide) hpr
  replace f5 : a5.k = 6 ∧ a5.n ≤ 1 := f5
  obtain ⟨a6, g7, rfl, f6, hpr⟩ := properF_hi (by decide) hpr
  replace f6 : a6.k = 7 ∧ a6.fs.enc.length ≤ 20000 := f6
  obtain rfl : g7 = [] := hpr
  obtain ⟨o0, d0⟩ := hok a0 (by simp)
  obtain ⟨o1, d1⟩ := hok a1 (by simp)
  obtain ⟨o2, d2⟩ := hok a2 (by simp)
  obtain ⟨o3, d3⟩ := hok a3 (by simp)
  obtain ⟨o4, d4⟩ := hok a4 (by simp)
  obtain ⟨o5, d5⟩ := hok a5 (by simp)
  obtain ⟨o6, d6⟩ := hok a6 (by simp)
  obtain ⟨b0, cs0, rfl, T0, hz⟩ := hz
  obtain ⟨b1, cs1, rfl, T1, hz⟩ := hz
  obtain ⟨b2, cs2, rfl, T2, hz⟩ := hz
  obtain ⟨b3, cs3, rfl, T3, hz⟩ := hz
  obtain ⟨b4, cs4, rfl, T4, hz⟩ := hz
  obtain ⟨b5, cs5, rfl, T5, hz⟩ := hz
  obtain ⟨b6, cs6, rfl, T6, hz⟩ := hz
  obtain rfl : cs6 = [] := hz
  obtain ⟨k0, n0, t0, s0⟩ := a0
  obtain ⟨n0, rfl⟩ := Int.eq_ofNat_of_zero_le o0.2.1.1
  obtain ⟨rfl, e0⟩ : k0 = 4 ∧ _ := f0
  simp only at e0 d0 T0
  obtain ⟨k1, n1, t1, s1⟩ := a1
  obtain ⟨n1, rfl⟩ := Int.eq_ofNat_of_zero_le o1.2.1.1
  obtain ⟨rfl, e1⟩ : k1 = 4 ∧ _ := f1
  simp only at e1 d1 T1
  obtain ⟨k2, n2, t2, s2⟩ := a2
  obtain ⟨n2, rfl⟩ := Int.eq_ofNat_of_zero_le o2.2.1.1
  obtain ⟨rfl, e2⟩ : k2 = 6 ∧ _ := f2
  simp only at e2 d2 T2
  obtain ⟨k3, n3, t3, s3⟩ := a3
  obtain ⟨n3, rfl⟩ := Int.eq_ofNat_of_zero_le o3.2.1.1
  obtain ⟨rfl, e3⟩ : k3 = 6 ∧ _ := f3
  simp only at e3 d3 T3
  obtain ⟨k4, n4, t4, s4⟩ := a4
  obtain ⟨n4, rfl⟩ := Int.eq_ofNat_of_zero_le o4.2.1.1
  obtain ⟨rfl, e4⟩ : k4 = 6 ∧ _ := f4
  simp only at e4 d4 T4
  obtain ⟨k5, n5, t5, s5⟩ := a5
  obtain ⟨n5, rfl⟩ := Int.eq_ofNat_of_zero_le o5.2.1.1
  obtain ⟨rfl, e5⟩ : k5 = 6 ∧ _ := f5
  simp only at e5 d5 T5
  obtain ⟨k6, n6, t6, s6⟩ := a6
  obtain ⟨n6, rfl⟩ := Int.eq_ofNat_of_zero_le o6.2.1.1
  obtain ⟨rfl, e6⟩ : k6 = 7 ∧ _ := f6
  simp only at e6 d6 T6
  obtain ⟨r, c, rfl, hr, hc⟩ := own_cells hown (by simp)
  refine (zz_basicConsume n0 n1 n2 n3 n4 n5 n6 t0 t1 t2 t3 t4 t5 t6 b0 b1 b2 b3 b4 b5 b6  hr hc).mono ?_
  rintro e w1 ⟨g, rfl, hg, hblk, hbel⟩
  refine ⟨205, g, 262, 265, rfl, hbel, ⟨fun w => by kernel_rfl, fun w => by kernel_rfl, fun w => by kernel_rfl, fun v w => by kernel_rfl, fun w' => calls_straight Tryz.func262 rfl (by kernel_rfl), fun w' B bb sv' xs h0 hB hb hBs hx => ?_⟩⟩
  have hblk' := hblk.below h0 hblk.lt
  have hcall := wr_basicConsume (g := g) [] t0 t1 ((n2 : Int) != 0) ((n3 : Int) != 0) ((n4 : Int) != 0) ((n5 : Int) != 0) b6 s6 hblk' (by have := hblk.lt; omega) hb hBs hx e0 e1 (T6.keep (q := fun g => g < B) (fun x hx => (h0.block x (by have := hq x hx; have := hbel.size; omega)).trans (hbel.block x (hq x hx))) (fun x hx => by have := hq x hx; have := hbel.size; omega)) d6 o6.2.2.2.1 e6
  have x2 : n2 = 0 ∨ n2 = 1 := by omega
  have x3 : n3 = 0 ∨ n3 = 1 := by omega
  have x4 : n4 = 0 ∨ n4 = 1 := by omega
  have x5 : n5 = 0 ∨ n5 = 1 := by omega
  refine (Eq.subst (motive := fun z => Calls _ _ _ _ (Gave _ _ _ _ _ z)) ?_ hcall)
  clear hcall hblk' hbel h0 hb hblk hB hBs hx hg hown hr hc
  rcases x2 with rfl | rfl <;> rcases x3 with rfl | rfl <;> rcases x4 with rfl | rfl <;> rcases x5 with rfl | rfl
  all_goals rw [argsB_low (by decide) (by decide), argsB_high (by decide) (by decide), argsB_high (by decide) (by decide), argsB_98 rfl, argsB_98 rfl, argsB_98 rfl, argsB_98 rfl, argsB_high (by decide) (by decide)]
  all_goals simp [argB, flushB, argsB_nil, Ag.none, orBit, bitv, be1]

set_option maxRecDepth 100000 in
set_option maxHeartbeats 2000000 in
theorem zm_basicConsumeOk {w : World} {gs : List Ag} {H : Nat} {sv : Value} {cs : List Value} {q : Nat → Prop} (hpr : properF [83] gs) (hok : ∀ a ∈ gs, a.ok ∧ a.fs.good none) (hown : w.ownsRow H 60 4 sv gs.length cs) (hz : ZgsC w q gs cs) (hq : ∀ g, q g → g < w.heap.size) :
    Calls Tryz.prog 18 #[.int .u16 60, .int .u16 21, sv] w (ZPost w 60 21 (argsB [83] gs 0 0)) := by
  obtain ⟨a0, g1, rfl, f0, hpr⟩ := properF_hi (by decide) hpr
  replace f0 : a0.k = 4 ∧ a0.t.size ≤ 255 := f0
  obtain rfl : g1 = [] := hpr
  obtain ⟨o0, d0⟩ := hok a0 (by simp)
  obtain ⟨b0, cs0, rfl, T0, hz⟩ := hz
  obtain rfl : cs0 = [] := hz
  obtain ⟨k0, n0, t0, s0⟩ := a0
  obtain ⟨n0, rfl⟩ := Int.eq_ofNat_of_zero_le o0.2.1.1
  obtain ⟨rfl, e0⟩ : k0 = 4 ∧ _ := f0
  simp only at e0 d0 T0
  obtain ⟨r, c, rfl, hr, hc⟩ := own_cells hown (by simp)
  refine (zz_basicConsumeOk n0 t0 b0  hr hc).mono ?_
  rintro e w1 ⟨g, rfl, hg, hblk, hbel⟩
  refine ⟨208, g, 266, 269, rfl, hbel, ⟨fun w => by kernel_rfl, fun w => by kernel_rfl, fun w => by kernel_rfl, fun v w => by kernel_rfl, fun w' => calls_straight Tryz.func266 rfl (by kernel_rfl), fun w' B bb sv' xs h0 hB hb hBs hx => ?_⟩⟩
  have hblk' := hblk.below h0 hblk.lt
  have hcall := wr_basicConsumeOk (g := g) [] t0 hblk' (by have := hblk.lt; omega) hb hBs hx e0
  refine (Eq.subst (motive := fun z => Calls _ _ _ _ (Gave _ _ _ _ _ z)) ?_ hcall)
  clear hcall hblk' hbel h0 hb hblk hB hBs hx hg hown hr hc
  rw [argsB_high (by decide) (by decide)]
  simp [argB, flushB, argsB_nil]

set_option maxRecDepth 100000 in
set_option maxHeartbeats 2000000 in
theorem zm_basicCancel {w : World} {gs : List Ag} {H : Nat} {sv : Value} {cs : List Value} {q : Nat → Prop} (hpr : properF [83, 98] gs) (hok : ∀ a ∈ gs, a.ok ∧ a.fs.good none) (hown : w.ownsRow H 60 4 sv gs.length cs) (hz : ZgsC w q gs cs) (hq : ∀ g, q g → g < w.heap.size) :
    Calls Tryz.prog 18 #[.int .u16 60, .int .u16 30, sv] w (ZPost w 60 30 (argsB [83, 98] gs 0 0)) := by
  obtain ⟨a0, g1, rfl, f0, hpr⟩ := properF_hi (by decide) hpr
  replace f0 : a0.k = 4 ∧ a0.t.size ≤ 255 := f0
  obtain ⟨a1, g2, rfl, f1, hpr⟩ := properF_hi (by decide) hpr
  replace f1 : a1.k = 6 ∧ a1.n ≤ 1 := f1
  obtain rfl : g2 = [] := hpr
  obtain ⟨o0, d0⟩ := hok a0 (by simp)
  obtain ⟨o1, d1⟩ := hok a1 (by simp)
  obtain ⟨b0, cs0, rfl, T0, hz⟩ := hz
  obtain ⟨b1, cs1, rfl, T1, hz⟩ := hz
  obtain rfl : cs1 = [] := hz
  obtain ⟨k0, n0, t0, s0⟩ := a0
  obtain ⟨n0, rfl⟩ := Int.eq_ofNat_of_zero_le o0.2.1.1
  obtain ⟨rfl, e0⟩ : k0 = 4 ∧ _ := f0
  simp only at e0 d0 T0
  obtain ⟨k1, n1, t1, s1⟩ := a1
  obtain ⟨n1, rfl⟩ := Int.eq_ofNat_of_zero_le o1.2.1.1
  obtain ⟨rfl, e1⟩ : k1 = 6 ∧ _ := f1
  simp only at e1 d1 T1
  obtain ⟨r, c, rfl, hr, hc⟩ := own_cells hown (by simp)
  refine (zz_basicCancel n0 n1 t0 t1 b0 b1  hr hc).mono ?_
  rintro e w1 ⟨g, rfl, hg, hblk, hbel⟩
  refine ⟨211, g, 270, 273, rfl, hbel, ⟨fun w => by kernel_rfl, fun w => by kernel_rfl, fun w => by kernel_rfl, fun v w => by kernel_rfl, fun w' => calls_straight Tryz.func270 rfl (by kernel_rfl), fun w' B bb sv' xs h0 hB hb hBs hx => ?_⟩⟩
  have hblk' := hblk.below h0 hblk.lt
  have hcall := wr_basicCancel (g := g) [] t0 ((n1 : Int) != 0) hblk' (by have := hblk.lt; omega) hb hBs hx e0
  have x1 : n1 = 0 ∨ n1 = 1 := by omega
  refine (Eq.subst (motive := fun z => Calls _ _ _ _ (Gave _ _ _ _ _ z)) ?_ hcall)
  clear hcall hblk' hbel h0 hb hblk hB hBs hx hg hown hr hc
  rcases x1 with rfl | rfl
  all_goals rw [argsB_high (by decide) (by decide), argsB_98 rfl]
  all_goals simp [argB, flushB, argsB_nil, orBit, bitv, be1]

set_option maxRecDepth 100000 in
set_option maxHeartbeats 2000000 in
theorem zm_basicCancelOk {w : World} {gs : List Ag} {H : Nat} {sv : Value} {cs : List Value} {q : Nat → Prop} (hpr : properF [83] gs) (hok : ∀ a ∈ gs, a.ok ∧ a.fs.good none) (hown : w.ownsRow H 60 4 sv gs.length cs) (hz : ZgsC w q gs cs) (hq : ∀ g, q g → g < w.heap.size) :
    Calls Tryz.prog 18 #[.int .u16 60, .int .u16 31, sv] w (ZPost w 60 31 (argsB [83] gs 0 0)) := by
  obtain ⟨a0, g1, rfl, f0, hpr⟩ := properF_hi (by decide) hpr
  replace f0 : a0.k = 4 ∧ a0.t.size ≤ 255 := f0
  obtain rfl : g1 = [] := hpr
  obtain ⟨o0, d0⟩ := hok a0 (by simp)
  obtain ⟨b0, cs0, rfl, T0, hz⟩ := hz
  obtain rfl : cs0 = [] := hz
  obtain ⟨k0, n0, t0, s0⟩ := a0
  obtain ⟨n0, rfl⟩ := Int.eq_ofNat_of_zero_le o0.2.1.1
  obtain ⟨rfl, e0⟩ : k0 = 4 ∧ _ := f0
  simp only at e0 d0 T0
  obtain ⟨r, c, rfl, hr, hc⟩ := own_cells hown (by simp)
  refine (zz_basicCancelOk n0 t0 b0  hr hc).mono ?_
  rintro e w1 ⟨g, rfl, hg, hblk, hbel⟩
  refine ⟨214, g, 274, 277, rfl, hbel, ⟨fun w => by kernel_rfl, fun w => by kernel_rfl, fun w => by kernel_rfl, fun v w => by kernel_rfl, fun w' => calls_straight Tryz.func274 rfl (by kernel_rfl), fun w' B bb sv' xs h0 hB hb hBs hx => ?_⟩⟩
  have hblk' := hblk.below h0 hblk.lt
  have hcall := wr_basicCancelOk (g := g) [] t0 hblk' (by have := hblk.lt; omega) hb hBs hx e0
  refine (Eq.subst (motive := fun z => Calls _ _ _ _ (Gave _ _ _ _ _ z)) ?_ hcall)
  clear hcall hblk' hbel h0 hb hblk hB hBs hx hg hown hr hc
  rw [argsB_high (by decide) (by decide)]
  simp [argB, flushB, argsB_nil]

set_option maxRecDepth 100000 in
set_option maxHeartbeats 2000000 in
theorem zm_basicPublish {w : World} {gs : List Ag} {H : Nat} {sv : Value} {cs : List Value} {q : Nat → Prop} (hpr : properF [49, 83, 83, 98, 98] gs) (hok : ∀ a ∈ gs, a.ok ∧ a.fs.good none) (hown : w.ownsRow H 60 4 sv gs.length cs) (hz : ZgsC w q gs cs) (hq : ∀ g, q g → g < w.heap.size) :
    Calls Tryz.prog 18 #[.int .u16 60, .int .u16 40, sv] w (ZPost w 60 40 (argsB [49, 83, 83, 98, 98] gs 0 0)) := by
  replace hpr := properF_lo (by decide) hpr
  obtain ⟨a0, g1, rfl, f0, hpr⟩ := properF_hi (by decide) hpr
  replace f0 : a0.k = 4 ∧ a0.t.size ≤ 255 := f0
  obtain ⟨a1, g2, rfl, f1, hpr⟩ := properF_hi (by decide) hpr
  replace f1 : a1.k = 4 ∧ a1.t.size ≤ 255 := f1
  obtain ⟨a2, g3, rfl, f2, hpr⟩ := properF_hi (by decide) hpr
  replace f2 : a2.k = 6 ∧ a2.n ≤ 1 := f2
  obtain ⟨a3, g4, rfl, f3, hpr⟩ := properF_hi (by decide) hpr
  replace f3 : a3.k = 6 ∧ a3.n ≤ 1 := f3
  obtain rfl : g4 = [] := hpr
  obtain ⟨o0, d0⟩ := hok a0 (by simp)
  obtain ⟨o1, d1⟩ := hok a1 (by simp)
  obtain ⟨o2, d2⟩ := hok a2 (by simp)
  obtain ⟨o3, d3⟩ := hok a3 (by simp)
  obtain ⟨b0, cs0, rfl, T0, hz⟩ := hz
  obtain ⟨b1, cs1, rfl, T1, hz⟩ := hz
  obtain ⟨b2, cs2, rfl, T2, hz⟩ := hz
  obtain ⟨b3, cs3, rfl, T3, hz⟩ := hz
  obtain rfl : cs3 = [] := hz
  obtain ⟨k0, n0, t0, s0⟩ := a0
  obtain ⟨n0, rfl⟩ := Int.eq_ofNat_of_zero_le o0.2.1.1
  obtain ⟨rfl, e0⟩ : k0 = 4 ∧ _ := f0
  simp only at e0 d0 T0
  obtain ⟨k1, n1, t1, s1⟩ := a1
  obtain ⟨n1, rfl⟩ := Int.eq_ofNat_of_zero_le o1.2.1.1
  obtain ⟨rfl, e1⟩ : k1 = 4 ∧ _ := f1
  simp only at e1 d1 T1
  obtain ⟨k2, n2, t2, s2⟩ := a2
  obtain ⟨n2, rfl⟩ := Int.eq_ofNat_of_zero_le o2.2.1.1
  obtain ⟨rfl, e2⟩ : k2 = 6 ∧ _ := f2
  simp only at e2 d2 T2
  obtain ⟨k3, n3, t3, s3⟩ := a3
  obtain ⟨n3, rfl⟩ := Int.eq_ofNat_of_zero_le o3.2.1.1
  obtain ⟨rfl, e3⟩ : k3 = 6 ∧ _ := f3
  simp only at e3 d3 T3
  obtain ⟨r, c, rfl, hr, hc⟩ := own_cells hown (by simp)
  refine (zz_basicPublish n0 n1 n2 n3 t0 t1 t2 t3 b0 b1 b2 b3  hr hc).mono ?_
  rintro e w1 ⟨g, rfl, hg, hblk, hbel⟩
  refine ⟨216, g, 278, 281, rfl, hbel, ⟨fun w => by kernel_rfl, fun w => by kernel_rfl, fun w => by kernel_rfl, fun v w => by kernel_rfl, fun w' => calls_straight Tryz.func278 rfl (by kernel_rfl), fun w' B bb sv' xs h0 hB hb hBs hx => ?_⟩⟩
  have hblk' := hblk.below h0 hblk.lt
  have hcall := wr_basicPublish (g := g) zprops t0 t1 ((n2 : Int) != 0) ((n3 : Int) != 0) hblk' (by have := hblk.lt; omega) hb hBs hx e0 e1
  have x2 : n2 = 0 ∨ n2 = 1 := by omega
  have x3 : n3 = 0 ∨ n3 = 1 := by omega
  refine (Eq.subst (motive := fun z => Calls _ _ _ _ (Gave _ _ _ _ _ z)) ?_ hcall)
  clear hcall hblk' hbel h0 hb hblk hB hBs hx hg hown hr hc
  rcases x2 with rfl | rfl <;> rcases x3 with rfl | rfl
  all_goals rw [argsB_low (by decide) (by decide), argsB_high (by decide) (by decide), argsB_high (by decide) (by decide), argsB_98 rfl, argsB_98 rfl]
  all_goals simp [argB, flushB, argsB_nil, Ag.none, orBit, bitv, be1]

set_option maxRecDepth 100000 in
set_option maxHeartbeats 2000000 in
theorem zm_basicReturn {w : World} {gs : List Ag} {H : Nat} {sv : Value} {cs : List Value} {q : Nat → Prop} (hpr : properF [115, 83, 83, 83] gs) (hok : ∀ a ∈ gs, a.ok ∧ a.fs.good none) (hown : w.ownsRow H 60 4 sv gs.length cs) (hz : ZgsC w q gs cs) (hq : ∀ g, q g → g < w.heap.size) :
    Calls Tryz.prog 18 #[.int .u16 60, .int .u16 50, sv] w (ZPost w 60 50 (argsB [115, 83, 83, 83] gs 0 0)) := by
  obtain ⟨a0, g1, rfl, f0, hpr⟩ := properF_hi (by decide) hpr
  replace f0 : a0.k = 1 ∧ a0.n < 65536 := f0
  obtain ⟨a1, g2, rfl, f1, hpr⟩ := properF_hi (by decide) hpr
  replace f1 : a1.k = 4 ∧ a1.t.size ≤ 255 := f1
  obtain ⟨a2, g3, rfl, f2, hpr⟩ := properF_hi (by decide) hpr
  replace f2 : a2.k = 4 ∧ a2.t.size ≤ 255 := f2
  obtain ⟨a3, g4, rfl, f3, hpr⟩ := properF_hi (by decide) hpr
  replace f3 : a3.k = 4 ∧ a3.t.size ≤ 255 := f3
  obtain rfl : g4 = [] := hpr
  obtain ⟨o0, d0⟩ := hok a0 (by simp)
  obtain ⟨o1, d1⟩ := hok a1 (by simp)
  obtain ⟨o2, d2⟩ := hok a2 (by simp)
  obtain ⟨o3, d3⟩ := hok a3 (by simp)
  obtain ⟨b0, cs0, rfl, T0, hz⟩ := hz
  obtain ⟨b1, cs1, rfl, T1, hz⟩ := hz
  obtain ⟨b2, cs2, rfl, T2, hz⟩ := hz
  obtain ⟨b3, cs3, rfl, T3, hz⟩ := hz
  obtain rfl : cs3 = [] := hz
  obtain ⟨k0, n0, t0, s0⟩ := a0
  obtain ⟨n0, rfl⟩ := Int.eq_ofNat_of_zero_le o0.2.1.1
  obtain ⟨rfl, e0⟩ : k0 = 1 ∧ _ := f0
  simp only at e0 d0 T0
  obtain ⟨k1, n1, t1, s1⟩ := a1
  obtain ⟨n1, rfl⟩ := Int.eq_ofNat_of_zero_le o1.2.1.1
  obtain ⟨rfl, e1⟩ : k1 = 4 ∧ _ := f1
  simp only at e1 d1 T1
  obtain ⟨k2, n2, t2, s2⟩ := a2
  obtain ⟨n2, rfl⟩ := Int.eq_ofNat_of_zero_le o2.2.1.1
  obtain ⟨rfl, e2⟩ : k2 = 4 ∧ _ := f2
  simp only at e2 d2 T2
  obtain ⟨k3, n3, t3, s3⟩ := a3
  obtain ⟨n3, rfl⟩ := Int.eq_ofNat_of_zero_le o3.2.1.1
  obtain ⟨rfl, e3⟩ : k3 = 4 ∧ _ := f3
  simp only at e3 d3 T3
  obtain ⟨r, c, rfl, hr, hc⟩ := own_cells hown (by simp)
  refine (zz_basicReturn n0 n1 n2 n3 t0 t1 t2 t3 b0 b1 b2 b3 (by omega) hr hc).mono ?_
  rintro e w1 ⟨g, rfl, hg, hblk, hbel⟩
  refine ⟨224, g, 285, 288, rfl, hbel, ⟨fun w => by kernel_rfl, fun w => by kernel_rfl, fun w => by kernel_rfl, fun v w => by kernel_rfl, fun w' => calls_straight Tryz.func285 rfl (by kernel_rfl), fun w' B bb sv' xs h0 hB hb hBs hx => ?_⟩⟩
  have hblk' := hblk.below h0 hblk.lt
  have hcall := wr_basicReturn (g := g) zprops n0 t1 t2 t3 hblk' (by have := hblk.lt; omega) hb hBs hx (by omega) e1 e2 e3
  refine (Eq.subst (motive := fun z => Calls _ _ _ _ (Gave _ _ _ _ _ z)) ?_ hcall)
  clear hcall hblk' hbel h0 hb hblk hB hBs hx hg hown hr hc
  rw [argsB_high (by decide) (by decide), argsB_high (by decide) (by decide), argsB_high (by decide) (by decide), argsB_high (by decide) (by decide)]
  simp [argB, flushB, argsB_nil]

set_option maxRecDepth 100000 in
set_option maxHeartbeats 2000000 in
theorem zm_basicDeliver {w : World} {gs : List Ag} {H : Nat} {sv : Value} {cs : List Value} {q : Nat → Prop} (hpr : properF [83, 113, 98, 83, 83] gs) (hok : ∀ a ∈ gs, a.ok ∧ a.fs.good none) (hown : w.ownsRow H 60 4 sv gs.length cs) (hz : ZgsC w q gs cs) (hq : ∀ g, q g → g < w.heap.size) :
    Calls Tryz.prog 18 #[.int .u16 60, .int .u16 60, sv] w (ZPost w 60 60 (argsB [83, 113, 98, 83, 83] gs 0 0)) := by
  obtain ⟨a0, g1, rfl, f0, hpr⟩ := properF_hi (by decide) hpr
  replace f0 : a0.k = 4 ∧ a0.t.size ≤ 255 := f0
  obtain ⟨a1, g2, rfl, f1, hpr⟩ := properF_hi (by decide) hpr
  replace f1 : a1.k = 3 ∧ a1.n < 18446744073709551616 := f1
  obtain ⟨a2, g3, rfl, f2, hpr⟩ := properF_hi (by decide) hpr
  replace f2 : a2.k = 6 ∧ a2.n ≤ 1 := f2
  obtain ⟨a3, g4, rfl, f3, hpr⟩ := properF_hi (by decide) hpr
  replace f3 : a3.k = 4 ∧ a3.t.size ≤ 255 := f3
  obtain ⟨a4, g5, rfl, f4, hpr⟩ := properF_hi (by decide) hpr
  replace f4 : a4.k = 4 ∧ a4.t.size ≤ 255 := f4
  obtain rfl : g5 = [] := hpr
  obtain ⟨o0, d0⟩ := hok a0 (by simp)
  obtain ⟨o1, d1⟩ := hok a1 (by simp)
  obtain ⟨o2, d2⟩ := hok a2 (by simp)
  obtain ⟨o3, d3⟩ := hok a3 (by simp)
  obtain ⟨o4, d4⟩ := hok a4 (by simp)
  obtain ⟨b0, cs0, rfl, T0, hz⟩ := hz
  obtain ⟨b1, cs1, rfl, T1, hz⟩ := hz
  obtain ⟨b2, cs2, rfl, T2, hz⟩ := hz
  obtain ⟨b3, cs3, rfl, T3, hz⟩ := hz
  obtain ⟨b4, cs4, rfl, T4, hz⟩ := hz
  obtain rfl : cs4 = [] := hz
  obtain ⟨k0, n0, t0, s0⟩ := a0
  obtain ⟨n0, rfl⟩ := Int.eq_ofNat_of_zero_le o0.2.1.1
  obtain ⟨rfl, e0⟩ : k0 = 4 ∧ _ := f0
  simp only at e0 d0 T0
  obtain ⟨k1, n1, t1, s1⟩ := a1
  obtain ⟨n1, rfl⟩ := Int.eq_ofNat_of_zero_le o1.2.1.1
  obtain ⟨rfl, e1⟩ : k1 = 3 ∧ _ := f1
  simp only at e1 d1 T1
  obtain ⟨k2, n2, t2, s2⟩ := a2
  obtain ⟨n2, rfl⟩ := Int.eq_ofNat_of_zero_le o2.2.1.1
  obtain ⟨rfl, e2⟩ : k2 = 6 ∧ _ := f2
  simp only at e2 d2 T2
  obtain ⟨k3, n3, t3, s3⟩ := a3
  obtain ⟨n3, rfl⟩ := Int.eq_ofNat_of_zero_le o3.2.1.1
  obtain ⟨rfl, e3⟩ : k3 = 4 ∧ _ := f3
  simp only at e3 d3 T3
  obtain ⟨k4, n4, t4, s4⟩ := a4
  obtain ⟨n4, rfl⟩ := Int.eq_ofNat_of_zero_le o4.2.1.1
  obtain ⟨rfl, e4⟩ : k4 = 4 ∧ _ := f4
  simp only at e4 d4 T4
  obtain ⟨r, c, rfl, hr, hc⟩ := own_cells hown (by simp)
  refine (zz_basicDeliver n0 n1 n2 n3 n4 t0 t1 t2 t3 t4 b0 b1 b2 b3 b4 (by omega) hr hc).mono ?_
  rintro e w1 ⟨g, rfl, hg, hblk, hbel⟩
  refine ⟨227, g, 289, 292, rfl, hbel, ⟨fun w => by kernel_rfl, fun w => by kernel_rfl, fun w => by kernel_rfl, fun v w => by kernel_rfl, fun w' => calls_straight Tryz.func289 rfl (by kernel_rfl), fun w' B bb sv' xs h0 hB hb hBs hx => ?_⟩⟩
  have hblk' := hblk.below h0 hblk.lt
  have hcall := wr_basicDeliver (g := g) zprops t0 n1 ((n2 : Int) != 0) t3 t4 hblk' (by have := hblk.lt; omega) hb hBs hx e0 (by omega) e3 e4
  have x2 : n2 = 0 ∨ n2 = 1 := by omega
  refine (Eq.subst (motive := fun z => Calls _ _ _ _ (Gave _ _ _ _ _ z)) ?_ hcall)
  clear hcall hblk' hbel h0 hb hblk hB hBs hx hg hown hr hc
  rcases x2 with rfl | rfl
  all_goals rw [argsB_high (by decide) (by decide), argsB_high (by decide) (by decide), argsB_98 rfl, argsB_high (by decide) (by decide), argsB_high (by decide) (by decide)]
  all_goals simp [argB, flushB, argsB_nil, orBit, bitv, be1]

set_option maxRecDepth 100000 in
set_option maxHeartbeats 2000000 in
theorem zm_basicGet {w : World} {gs : List Ag} {H : Nat} {sv : Value} {cs : List Value} {q : Nat → Prop} (hpr : properF [49, 83, 98] gs) (hok : ∀ a ∈ gs, a.ok ∧ a.fs.good none) (hown : w.ownsRow H 60 4 sv gs.length cs) (hz : ZgsC w q gs cs) (hq : ∀ g, q g → g < w.heap.size) :
    Calls Tryz.prog 18 #[.int .u16 60, .int .u16 70, sv] w (ZPost w 60 70 (argsB [49, 83, 98] gs 0 0)) := by
  replace hpr := properF_lo (by decide) hpr
  obtain ⟨a0, g1, rfl, f0, hpr⟩ := properF_hi (by decide) hpr
  replace f0 : a0.k = 4 ∧ a0.t.size ≤ 255 := f0
  obtain ⟨a1, g2, rfl, f1, hpr⟩ := properF_hi (by decide) hpr
  replace f1 : a1.k = 6 ∧ a1.n ≤ 1 := f1
  obtain rfl : g2 = [] := hpr
  obtain ⟨o0, d0⟩ := hok a0 (by simp)
  obtain ⟨o1, d1⟩ := hok a1 (by simp)
  obtain ⟨b0, cs0, rfl, T0, hz⟩ := hz
  obtain ⟨b1, cs1, rfl, T1, hz⟩ := hz
  obtain rfl : cs1 = [] := hz
  obtain ⟨k0, n0, t0, s0⟩ := a0
  obtain ⟨n0, rfl⟩ := Int.eq_ofNat_of_zero_le o0.2.1.1
  obtain ⟨rfl, e0⟩ : k0 = 4 ∧ _ := f0
  simp only at e0 d0 T0
  obtain ⟨k1, n1, t1, s1⟩ := a1
  obtain ⟨n1, rfl⟩ := Int.eq_ofNat_of_zero_le o1.2.1.1
  obtain ⟨rfl, e1⟩ : k1 = 6 ∧ _ := f1
  simp only at e1 d1 T1
  obtain ⟨r, c, rfl, hr, hc⟩ := own_cells hown (by simp)
  refine (zz_basicGet n0 n1 t0 t1 b0 b1  hr hc).mono ?_
  rintro e w1 ⟨g, rfl, hg, hblk, hbel⟩
  refine ⟨230, g, 293, 296, rfl, hbel, ⟨fun w => by kernel_rfl, fun w => by kernel_rfl, fun w => by kernel_rfl, fun v w => by kernel_rfl, fun w' => calls_straight Tryz.func293 rfl (by kernel_rfl), fun w' B bb sv' xs h0 hB hb hBs hx => ?_⟩⟩
  have hblk' := hblk.below h0 hblk.lt
  have hcall := wr_basicGet (g := g) [] t0 ((n1 : Int) != 0) hblk' (by have := hblk.lt; omega) hb hBs hx e0
  have x1 : n1 = 0 ∨ n1 = 1 := by omega
  refine (Eq.subst (motive := fun z => Calls _ _ _ _ (Gave _ _ _ _ _ z)) ?_ hcall)
  clear hcall hblk' hbel h0 hb hblk hB hBs hx hg hown hr hc
  rcases x1 with rfl | rfl
  all_goals rw [argsB_low (by decide) (by decide), argsB_high (by decide) (by decide), argsB_98 rfl]
  all_goals simp [argB, flushB, argsB_nil, Ag.none, orBit, bitv, be1]

set_option maxRecDepth 100000 in
set_option maxHeartbeats 2000000 in
theorem zm_basicGetOk {w : World} {gs : List Ag} {H : Nat} {sv : Value} {cs : List Value} {q : Nat → Prop} (hpr : properF [113, 98, 83, 83, 108] gs) (hok : ∀ a ∈ gs, a.ok ∧ a.fs.good none) (hown : w.ownsRow H 60 4 sv gs.length cs) (hz : ZgsC w q gs cs) (hq : ∀ g, q g → g < w.heap.size) :
    Calls Tryz.prog 18 #[.int .u16 60, .int .u16 71, sv] w (ZPost w 60 71 (argsB [113, 98, 83, 83, 108] gs 0 0)) := by
  obtain ⟨a0, g1, rfl, f0, hpr⟩ := properF_hi (by decide) hpr
  replace f0 : a0.k = 3 ∧ a0.n < 18446744073709551616 := f0
  obtain ⟨a1, g2, rfl, f1, hpr⟩ := properF_hi (by decide) hpr
  replace f1 : a1.k = 6 ∧ a1.n ≤ 1 := f1
  obtain ⟨a2, g3, rfl, f2, hpr⟩ := properF_hi (by decide) hpr
  replace f2 : a2.k = 4 ∧ a2.t.size ≤ 255 := f2
  obtain ⟨a3, g4, rfl, f3, hpr⟩ := properF_hi (by decide) hpr
  replace f3 : a3.k = 4 ∧ a3.t.size ≤ 255 := f3
  obtain ⟨a4, g5, rfl, f4, hpr⟩ := properF_hi (by decide) hpr
  replace f4 : a4.k = 2 ∧ a4.n < 4294967296 := f4
  obtain rfl : g5 = [] := hpr
  obtain ⟨o0, d0⟩ := hok a0 (by simp)
  obtain ⟨o1, d1⟩ := hok a1 (by simp)
  obtain ⟨o2, d2⟩ := hok a2 (by simp)
  obtain ⟨o3, d3⟩ := hok a3 (by simp)
  obtain ⟨o4, d4⟩ := hok a4 (by simp)
  obtain ⟨b0, cs0, rfl, T0, hz⟩ := hz
  obtain ⟨b1, cs1, rfl, T1, hz⟩ := hz
  obtain ⟨b2, cs2, rfl, T2, hz⟩ := hz
  obtain ⟨b3, cs3, rfl, T3, hz⟩ := hz
  obtain ⟨b4, cs4, rfl, T4, hz⟩ := hz
  obtain rfl : cs4 = [] := hz
  obtain ⟨k0, n0, t0, s0⟩ := a0
  obtain ⟨n0, rfl⟩ := Int.eq_ofNat_of_zero_le o0.2.1.1
  obtain ⟨rfl, e0⟩ : k0 = 3 ∧ _ := f0
  simp only at e0 d0 T0
  obtain ⟨k1, n1, t1, s1⟩ := a1
  obtain ⟨n1, rfl⟩ := Int.eq_ofNat_of_zero_le o1.2.1.1
  obtain ⟨rfl, e1⟩ : k1 = 6 ∧ _ := f1
  simp only at e1 d1 T1
  obtain ⟨k2, n2, t2, s2⟩ := a2
  obtain ⟨n2, rfl⟩ := Int.eq_ofNat_of_zero_le o2.2.1.1
  obtain ⟨rfl, e2⟩ : k2 = 4 ∧ _ := f2
  simp only at e2 d2 T2
  obtain ⟨k3, n3, t3, s3⟩ := a3
  obtain ⟨n3, rfl⟩ := Int.eq_ofNat_of_zero_le o3.2.1.1
  obtain ⟨rfl, e3⟩ : k3 = 4 ∧ _ := f3
  simp only at e3 d3 T3
  obtain ⟨k4, n4, t4, s4⟩ := a4
  obtain ⟨n4, rfl⟩ := Int.eq_ofNat_of_zero_le o4.2.1.1
  obtain ⟨rfl, e4⟩ : k4 = 2 ∧ _ := f4
  simp only at e4 d4 T4
  obtain ⟨r, c, rfl, hr, hc⟩ := own_cells hown (by simp)
  refine (zz_basicGetOk n0 n1 n2 n3 n4 t0 t1 t2 t3 t4 b0 b1 b2 b3 b4 (by omega) (by omega) hr hc).mono ?_
  rintro e w1 ⟨g, rfl, hg, hblk, hbel⟩
  refine ⟨233, g, 297, 300, rfl, hbel, ⟨fun w => by kernel_rfl, fun w => by kernel_rfl, fun w => by kernel_rfl, fun v w => by kernel_rfl, fun w' => calls_straight Tryz.func297 rfl (by kernel_rfl), fun w' B bb sv' xs h0 hB hb hBs hx => ?_⟩⟩
  have hblk' := hblk.below h0 hblk.lt
  have hcall := wr_basicGetOk (g := g) zprops n0 ((n1 : Int) != 0) t2 t3 n4 hblk' (by have := hblk.lt; omega) hb hBs hx (by omega) e2 e3 (by omega)
  have x1 : n1 = 0 ∨ n1 = 1 := by omega
  refine (Eq.subst (motive := fun z => Calls _ _ _ _ (Gave _ _ _ _ _ z)) ?_ hcall)
  clear hcall hblk' hbel h0 hb hblk hB hBs hx hg hown hr hc
  rcases x1 with rfl | rfl
  all_goals rw [argsB_high (by decide) (by decide), argsB_98 rfl, argsB_high (by decide) (by decide), argsB_high (by decide) (by decide), argsB_high (by decide) (by decide)]
  all_goals simp [argB, flushB, argsB_nil, orBit, bitv, be1]

set_option maxRecDepth 100000 in
set_option maxHeartbeats 2000000 in
theorem zm_basicGetEmpty {w : World} {gs : List Ag} {H : Nat} {sv : Value} {cs : List Value} {q : Nat → Prop} (hpr : properF [50] gs) (hok : ∀ a ∈ gs, a.ok ∧ a.fs.good none) (hown : w.ownsRow H 60 4 sv gs.length cs) (hz : ZgsC w q gs cs) (hq : ∀ g, q g → g < w.heap.size) :
    Calls Tryz.prog 18 #[.int .u16 60, .int .u16 72, sv] w (ZPost w 60 72 (argsB [50] gs 0 0)) := by
  replace hpr := properF_lo (by decide) hpr
  obtain rfl : gs = [] := hpr
  obtain rfl : cs = [] := hz
  obtain ⟨A, c, rfl⟩ := own_shape hown
  refine (zz_basicGetEmpty A c).mono ?_
  rintro e w1 ⟨g, rfl, hg, hblk, hbel⟩
  refine ⟨236, g, 301, 304, rfl, hbel, ⟨fun w => by kernel_rfl, fun w => by kernel_rfl, fun w => by kernel_rfl, fun v w => by kernel_rfl, fun w' => calls_straight Tryz.func301 rfl (by kernel_rfl), fun w' B bb sv' xs h0 hB hb hBs hx => ?_⟩⟩
  have hblk' := hblk.below h0 hblk.lt
  have hcall := wr_basicGetEmpty (g := g) []  hblk' (by have := hblk.lt; omega) hb hBs hx 
  refine (Eq.subst (motive := fun z => Calls _ _ _ _ (Gave _ _ _ _ _ z)) ?_ hcall)
  clear hcall hblk' hbel h0 hb hblk hB hBs hx hg hown
  rw [argsB_low (by decide) (by decide)]
  simp [argB, flushB, argsB_nil, Ag.none, sz_none]

set_option maxRecDepth 100000 in
set_option maxHeartbeats 2000000 in
theorem zm_basicAck {w : World} {gs : List Ag} {H : Nat} {sv : Value} {cs : List Value} {q : Nat → Prop} (hpr : properF [113, 98] gs) (hok : ∀ a ∈ gs, a.ok ∧ a.fs.good none) (hown : w.ownsRow H 60 4 sv gs.length cs) (hz : ZgsC w q gs cs) (hq : ∀ g, q g → g < w.heap.size) :
    Calls Tryz.prog 18 #[.int .u16 60, .int .u16 80, sv] w (ZPost w 60 80 (argsB [113, 98] gs 0 0)) := by
  obtain ⟨a0, g1, rfl, f0, hpr⟩ := properF_hi (by decide) hpr
  replace f0 : a0.k = 3 ∧ a0.n < 18446744073709551616 := f0
  obtain ⟨a1, g2, rfl, f1, hpr⟩ := properF_hi (by decide) hpr
  replace f1 : a1.k = 6 ∧ a1.n ≤ 1 := f1
  obtain rfl : g2 = [] := hpr
  obtain ⟨o0, d0⟩ := hok a0 (by simp)
  obtain ⟨o1, d1⟩ := hok a1 (by simp)
  obtain ⟨b0, cs0, rfl, T0, hz⟩ := hz
  obtain ⟨b1, cs1, rfl, T1, hz⟩ := hz
  obtain rfl : cs1 = [] := hz
  obtain ⟨k0, n0, t0, s0⟩ := a0
  obtain ⟨n0, rfl⟩ := Int.eq_ofNat_of_zero_le o0.2.1.1
  obtain ⟨rfl, e0⟩ : k0 = 3 ∧ _ := f0
  simp only at e0 d0 T0
  obtain ⟨k1, n1, t1, s1⟩ := a1
  obtain ⟨n1, rfl⟩ := Int.eq_ofNat_of_zero_le o1.2.1.1
  obtain ⟨rfl, e1⟩ : k1 = 6 ∧ _ := f1
  simp only at e1 d1 T1
  obtain ⟨r, c, rfl, hr, hc⟩ := own_cells hown (by simp)
  refine (zz_basicAck n0 n1 t0 t1 b0 b1 (by omega) hr hc).mono ?_
  rintro e w1 ⟨g, rfl, hg, hblk, hbel⟩
  refine ⟨238, g, 305, 308, rfl, hbel, ⟨fun w => by kernel_rfl, fun w => by kernel_rfl, fun w => by kernel_rfl, fun v w => by kernel_rfl, fun w' => calls_straight Tryz.func305 rfl (by kernel_rfl), fun w' B bb sv' xs h0 hB hb hBs hx => ?_⟩⟩
  have hblk' := hblk.below h0 hblk.lt
  have hcall := wr_basicAck (g := g) [] n0 ((n1 : Int) != 0) hblk' (by have := hblk.lt; omega) hb hBs hx (by omega)
  have x1 : n1 = 0 ∨ n1 = 1 := by omega
  refine (Eq.subst (motive := fun z => Calls _ _ _ _ (Gave _ _ _ _ _ z)) ?_ hcall)
  clear hcall hblk' hbel h0 hb hblk hB hBs hx hg hown hr hc
  rcases x1 with rfl | rfl
  all_goals rw [argsB_high (by decide) (by decide), argsB_98 rfl]
  all_goals simp [argB, flushB, argsB_nil, orBit, bitv, be1]

set_option maxRecDepth 100000 in
set_option maxHeartbeats 2000000 in
theorem zm_basicReject {w : World} {gs : List Ag} {H : Nat} {sv : Value} {cs : List Value} {q : Nat → Prop} (hpr : properF [113, 98] gs) (hok : ∀ a ∈ gs, a.ok ∧ a.fs.good none) (hown : w.ownsRow H 60 4 sv gs.length cs) (hz : ZgsC w q gs cs) (hq : ∀ g, q g → g < w.heap.size) :
    Calls Tryz.prog 18 #[.int .u16 60, .int .u16 90, sv] w (ZPost w 60 90 (argsB [113, 98] gs 0 0)) := by
  obtain ⟨a0, g1, rfl, f0, hpr⟩ := properF_hi (by decide) hpr
  replace f0 : a0.k = 3 ∧ a0.n < 18446744073709551616 := f0
  obtain ⟨a1, g2, rfl, f1, hpr⟩ := properF_hi (by decide) hpr
  replace f1 : a1.k = 6 ∧ a1.n ≤ 1 := f1
  obtain rfl : g2 = [] := hpr
  obtain ⟨o0, d0⟩ := hok a0 (by simp)
  obtain ⟨o1, d1⟩ := hok a1 (by simp)
  obtain ⟨b0, cs0, rfl, T0, hz⟩ := hz
  obtain ⟨b1, cs1, rfl, T1, hz⟩ := hz
  obtain rfl : cs1 = [] := hz
  obtain ⟨k0, n0, t0, s0⟩ := a0
  obtain ⟨n0, rfl⟩ := Int.eq_ofNat_of_zero_le o0.2.1.1
  obtain ⟨rfl, e0⟩ : k0 = 3 ∧ _ := f0
  simp only at e0 d0 T0
  obtain ⟨k1, n1, t1, s1⟩ := a1
  obtain ⟨n1, rfl⟩ := Int.eq_ofNat_of_zero_le o1.2.1.1
  obtain ⟨rfl, e1⟩ : k1 = 6 ∧ _ := f1
  simp only at e1 d1 T1
  obtain ⟨r, c, rfl, hr, hc⟩ := own_cells hown (by simp)
  refine (zz_basicReject n0 n1 t0 t1 b0 b1 (by omega) hr hc).mono ?_
  rintro e w1 ⟨g, rfl, hg, hblk, hbel⟩
  refine ⟨241, g, 309, 312, rfl, hbel, ⟨fun w => by kernel_rfl, fun w => by kernel_rfl, fun w => by kernel_rfl, fun v w => by kernel_rfl, fun w' => calls_straight Tryz.func309 rfl (by kernel_rfl), fun w' B bb sv' xs h0 hB hb hBs hx => ?_⟩⟩
  have hblk' := hblk.below h0 hblk.lt
  have hcall := wr_basicReject (g := g) [] n0 ((n1 : Int) != 0) hblk' (by have := hblk.lt; omega) hb hBs hx (by omega)
  have x1 : n1 = 0 ∨ n1 = 1 := by omega
  refine (Eq.subst (motive := fun z => Calls _ _ _ _ (Gave _ _ _ _ _ z)) ?_ hcall)
  clear hcall hblk' hbel h0 hb hblk hB hBs hx hg hown hr hc
  rcases x1 with rfl | rfl
  all_goals rw [argsB_high (by decide) (by decide), argsB_98 rfl]
  all_goals simp [argB, flushB, argsB_nil, orBit, bitv, be1]

set_option maxRecDepth 100000 in
set_option maxHeartbeats 2000000 in
theorem zm_basicRecoverAsync {w : World} {gs : List Ag} {H : Nat} {sv : Value} {cs : List Value} {q : Nat → Prop} (hpr : properF [98] gs) (hok : ∀ a ∈ gs, a.ok ∧ a.fs.good none) (hown : w.ownsRow H 60 4 sv gs.length cs) (hz : ZgsC w q gs cs) (hq : ∀ g, q g → g < w.heap.size) :
    Calls Tryz.prog 18 #[.int .u16 60, .int .u16 100, sv] w (ZPost w 60 100 (argsB [98] gs 0 0)) := by
  obtain ⟨a0, g1, rfl, f0, hpr⟩ := properF_hi (by decide) hpr
  replace f0 : a0.k = 6 ∧ a0.n ≤ 1 := f0
  obtain rfl : g1 = [] := hpr
  obtain ⟨o0, d0⟩ := hok a0 (by simp)
  obtain ⟨b0, cs0, rfl, T0, hz⟩ := hz
  obtain rfl : cs0 = [] := hz
  obtain ⟨k0, n0, t0, s0⟩ := a0
  obtain ⟨n0, rfl⟩ := Int.eq_ofNat_of_zero_le o0.2.1.1
  obtain ⟨rfl, e0⟩ : k0 = 6 ∧ _ := f0
  simp only at e0 d0 T0
  obtain ⟨r, c, rfl, hr, hc⟩ := own_cells hown (by simp)
  refine (zz_basicRecoverAsync n0 t0 b0  hr hc).mono ?_
  rintro e w1 ⟨g, rfl, hg, hblk, hbel⟩
  refine ⟨244, g, 313, 316, rfl, hbel, ⟨fun w => by kernel_rfl, fun w => by kernel_rfl, fun w => by kernel_rfl, fun v w => by kernel_rfl, fun w' => calls_straight Tryz.func313 rfl (by kernel_rfl), fun w' B bb sv' xs h0 hB hb hBs hx => ?_⟩⟩
  have hblk' := hblk.below h0 hblk.lt
  have hcall := wr_basicRecoverAsync (g := g) [] ((n0 : Int) != 0) hblk' (by have := hblk.lt; omega) hb hBs hx 
  have x0 : n0 = 0 ∨ n0 = 1 := by omega
  refine (Eq.subst (motive := fun z => Calls _ _ _ _ (Gave _ _ _ _ _ z)) ?_ hcall)
  clear hcall hblk' hbel h0 hb hblk hB hBs hx hg hown hr hc
  rcases x0 with rfl | rfl
  all_goals rw [argsB_98 rfl]
  all_goals simp [flushB, argsB_nil, orBit, bitv, be1]

set_option maxRecDepth 100000 in
set_option maxHeartbeats 2000000 in
theorem zm_basicRecover {w : World} {gs : List Ag} {H : Nat} {sv : Value} {cs : List Value} {q : Nat → Prop} (hpr : properF [98] gs) (hok : ∀ a ∈ gs, a.ok ∧ a.fs.good none) (hown : w.ownsRow H 60 4 sv gs.length cs) (hz : ZgsC w q gs cs) (hq : ∀ g, q g → g < w.heap.size) :
    Calls Tryz.prog 18 #[.int .u16 60, .int .u16 110, sv] w (ZPost w 60 110 (argsB [98] gs 0 0)) := by
  obtain ⟨a0, g1, rfl, f0, hpr⟩ := properF_hi (by decide) hpr
  replace f0 : a0.k = 6 ∧ a0.n ≤ 1 := f0
  obtain rfl : g1 = [] := hpr
  obtain ⟨o0, d0⟩ := hok a0 (by simp)
  obtain ⟨b0, cs0, rfl, T0, hz⟩ := hz
  obtain rfl : cs0 = [] := hz
  obtain ⟨k0, n0, t0, s0⟩ := a0
  obtain ⟨n0, rfl⟩ := Int.eq_ofNat_of_zero_le o0.2.1.1
  obtain ⟨rfl, e0⟩ : k0 = 6 ∧ _ := f0
  simp only at e0 d0 T0
  obtain ⟨r, c, rfl, hr, hc⟩ := own_cells hown (by simp)
  refine (zz_basicRecover n0 t0 b0  hr hc).mono ?_
  rintro e w1 ⟨g, rfl, hg, hblk, hbel⟩
  refine ⟨247, g, 317, 320, rfl, hbel, ⟨fun w => by kernel_rfl, fun w => by kernel_rfl, fun w => by kernel_rfl, fun v w => by kernel_rfl, fun w' => calls_straight Tryz.func317 rfl (by kernel_rfl), fun w' B bb sv' xs h0 hB hb hBs hx => ?_⟩⟩
  have hblk' := hblk.below h0 hblk.lt
  have hcall := wr_basicRecover (g := g) [] ((n0 : Int) != 0) hblk' (by have := hblk.lt; omega) hb hBs hx 
  have x0 : n0 = 0 ∨ n0 = 1 := by omega
  refine (Eq.subst (motive := fun z => Calls _ _ _ _ (Gave _ _ _ _ _ z)) ?_ hcall)
  clear hcall hblk' hbel h0 hb hblk hB hBs hx hg hown hr hc
  rcases x0 with rfl | rfl
  all_goals rw [argsB_98 rfl]
  all_goals simp [flushB, argsB_nil, orBit, bitv, be1]

set_option maxRecDepth 100000 in
set_option maxHeartbeats 2000000 in
theorem zm_basicRecoverOk {w : World} {gs : List Ag} {H : Nat} {sv : Value} {cs : List Value} {q : Nat → Prop} (hpr : properF [] gs) (hok : ∀ a ∈ gs, a.ok ∧ a.fs.good none) (hown : w.ownsRow H 60 4 sv gs.length cs) (hz : ZgsC w q gs cs) (hq : ∀ g, q g → g < w.heap.size) :
    Calls Tryz.prog 18 #[.int .u16 60, .int .u16 111, sv] w (ZPost w 60 111 (argsB [] gs 0 0)) := by
  obtain rfl : gs = [] := hpr
  obtain rfl : cs = [] := hz
  obtain ⟨A, c, rfl⟩ := own_shape hown
  refine (zz_basicRecoverOk A c).mono ?_
  rintro e w1 ⟨g, rfl, hg, hblk, hbel⟩
  refine ⟨249, g, 321, 324, rfl, hbel, ⟨fun w => by kernel_rfl, fun w => by kernel_rfl, fun w => by kernel_rfl, fun v w => by kernel_rfl, fun w' => calls_straight Tryz.func321 rfl (by kernel_rfl), fun w' B bb sv' xs h0 hB hb hBs hx => ?_⟩⟩
  have hblk' := hblk.below h0 hblk.lt
  have hcall := wr_basicRecoverOk (g := g) []  hblk' (by have := hblk.lt; omega) hb hBs hx 
  refine (Eq.subst (motive := fun z => Calls _ _ _ _ (Gave _ _ _ _ _ z)) ?_ hcall)
  clear hcall hblk' hbel h0 hb hblk hB hBs hx hg hown
  rfl

set_option maxRecDepth 100000 in
set_option maxHeartbeats 2000000 in
theorem zm_basicNack {w : World} {gs : List Ag} {H : Nat} {sv : Value} {cs : List Value} {q : Nat → Prop} (hpr : properF [113, 98, 98] gs) (hok : ∀ a ∈ gs, a.ok ∧ a.fs.good none) (hown : w.ownsRow H 60 4 sv gs.length cs) (hz : ZgsC w q gs cs) (hq : ∀ g, q g → g < w.heap.size) :
    Calls Tryz.prog 18 #[.int .u16 60, .int .u16 120, sv] w (ZPost w 60 120 (argsB [113, 98, 98] gs 0 0)) := by
  obtain ⟨a0, g1, rfl, f0, hpr⟩ := properF_hi (by decide) hpr
  replace f0 : a0.k = 3 ∧ a0.n < 18446744073709551616 := f0
  obtain ⟨a1, g2, rfl, f1, hpr⟩ := properF_hi (by decide) hpr
  replace f1 : a1.k = 6 ∧ a1.n ≤ 1 := f1
  obtain ⟨a2, g3, rfl, f2, hpr⟩ := properF_hi (by decide) hpr
  replace f2 : a2.k = 6 ∧ a2.n ≤ 1 := f2
  obtain rfl : g3 = [] := hpr
  obtain ⟨o0, d0⟩ := hok a0 (by simp)
  obtain ⟨o1, d1⟩ := hok a1 (by simp)
  obtain ⟨o2, d2⟩ := hok a2 (by simp)
  obtain ⟨b0, cs0, rfl, T0, hz⟩ := hz
  obtain ⟨b1, cs1, rfl, T1, hz⟩ := hz
  obtain ⟨b2, cs2, rfl, T2, hz⟩ := hz
  obtain rfl : cs2 = [] := hz
  obtain ⟨k0, n0, t0, s0⟩ := a0
  obtain ⟨n0, rfl⟩ := Int.eq_ofNat_of_zero_le o0.2.1.1
  obtain ⟨rfl, e0⟩ : k0 = 3 ∧ _ := f0
  simp only at e0 d0 T0
  obtain ⟨k1, n1, t1, s1⟩ := a1
  obtain ⟨n1, rfl⟩ := Int.eq_ofNat_of_zero_le o1.2.1.1
  obtain ⟨rfl, e1⟩ : k1 = 6 ∧ _ := f1
  simp only at e1 d1 T1
  obtain ⟨k2, n2, t2, s2⟩ := a2
  obtain ⟨n2, rfl⟩ := Int.eq_ofNat_of_zero_le o2.2.1.1
  obtain ⟨rfl, e2⟩ : k2 = 6 ∧ _ := f2
  simp only at e2 d2 T2
  obtain ⟨r, c, rfl, hr, hc⟩ := own_cells hown (by simp)
  refine (zz_basicNack n0 n1 n2 t0 t1 t2 b0 b1 b2 (by omega) hr hc).mono ?_
  rintro e w1 ⟨g, rfl, hg, hblk, hbel⟩
  refine ⟨251, g, 325, 328, rfl, hbel, ⟨fun w => by kernel_rfl, fun w => by kernel_rfl, fun w => by kernel_rfl, fun v w => by kernel_rfl, fun w' => calls_straight Tryz.func325 rfl (by kernel_rfl), fun w' B bb sv' xs h0 hB hb hBs hx => ?_⟩⟩
  have hblk' := hblk.below h0 hblk.lt
  have hcall := wr_basicNack (g := g) [] n0 ((n1 : Int) != 0) ((n2 : Int) != 0) hblk' (by have := hblk.lt; omega) hb hBs hx (by omega)
  have x1 : n1 = 0 ∨ n1 = 1 := by omega
  have x2 : n2 = 0 ∨ n2 = 1 := by omega
  refine (Eq.subst (motive := fun z => Calls _ _ _ _ (Gave _ _ _ _ _ z)) ?_ hcall)
  clear hcall hblk' hbel h0 hb hblk hB hBs hx hg hown hr hc
  rcases x1 with rfl | rfl <;> rcases x2 with rfl | rfl
  all_goals rw [argsB_high (by decide) (by decide), argsB_98 rfl, argsB_98 rfl]
  all_goals simp [argB, flushB, argsB_nil, orBit, bitv, be1]

set_option maxRecDepth 100000 in
set_option maxHeartbeats 2000000 in
theorem zm_txSelect {w : World} {gs : List Ag} {H : Nat} {sv : Value} {cs : List Value} {q : Nat → Prop} (hpr : properF [] gs) (hok : ∀ a ∈ gs, a.ok ∧ a.fs.good none) (hown : w.ownsRow H 60 4 sv gs.length cs) (hz : ZgsC w q gs cs) (hq : ∀ g, q g → g < w.heap.size) :
    Calls Tryz.prog 18 #[.int .u16 90, .int .u16 10, sv] w (ZPost w 90 10 (argsB [] gs 0 0)) := by
  obtain rfl : gs = [] := hpr
  obtain rfl : cs = [] := hz
  obtain ⟨A, c, rfl⟩ := own_shape hown
  refine (zz_txSelect A c).mono ?_
  rintro e w1 ⟨g, rfl, hg, hblk, hbel⟩
  refine ⟨254, g, 329, 332, rfl, hbel, ⟨fun w => by kernel_rfl, fun w => by kernel_rfl, fun w => by kernel_rfl, fun v w => by kernel_rfl, fun w' => calls_straight Tryz.func329 rfl (by kernel_rfl), fun w' B bb sv' xs h0 hB hb hBs hx => ?_⟩⟩
  have hblk' := hblk.below h0 hblk.lt
  have hcall := wr_txSelect (g := g) []  hblk' (by have := hblk.lt; omega) hb hBs hx 
  refine (Eq.subst (motive := fun z => Calls _ _ _ _ (Gave _ _ _ _ _ z)) ?_ hcall)
  clear hcall hblk' hbel h0 hb hblk hB hBs hx hg hown
  rfl

set_option maxRecDepth 100000 in
set_option maxHeartbeats 2000000 in
theorem zm_txSelectOk {w : World} {gs : List Ag} {H : Nat} {sv : Value} {cs : List Value} {q : Nat → Prop} (hpr : properF [] gs) (hok : ∀ a ∈ gs, a.ok ∧ a.fs.good none) (hown : w.ownsRow H 60 4 sv gs.length cs) (hz : ZgsC w q gs cs) (hq : ∀ g, q g → g < w.heap.size) :
    Calls Tryz.prog 18 #[.int .u16 90, .int .u16 11, sv] w (ZPost w 90 11 (argsB [] gs 0 0)) := by
  obtain rfl : gs = [] := hpr
  obtain rfl : cs = [] := hz
  obtain ⟨A, c, rfl⟩ := own_shape hown
  refine (zz_txSelectOk A c).mono ?_
  rintro e w1 ⟨g, rfl, hg, hblk, hbel⟩
  refine ⟨256, g, 333, 336, rfl, hbel, ⟨fun w => by kernel_rfl, fun w => by kernel_rfl, fun w => by kernel_rfl, fun v w => by kernel_rfl, fun w' => calls_straight Tryz.func333 rfl (by kernel_rfl), fun w' B bb sv' xs h0 hB hb hBs hx => ?_⟩⟩
  have hblk' := hblk.below h0 hblk.lt
  have hcall := wr_txSelectOk (g := g) []  hblk' (by have := hblk.lt; omega) hb hBs hx 
  refine (Eq.subst (motive := fun z => Calls _ _ _ _ (Gave _ _ _ _ _ z)) ?_ hcall)
  clear hcall hblk' hbel h0 hb hblk hB hBs hx hg hown
  rfl

set_option maxRecDepth 100000 in
set_option maxHeartbeats 2000000 in
theorem zm_txCommit {w : World} {gs : List Ag} {H : Nat} {sv : Value} {cs : List Value} {q : Nat → Prop} (hpr : properF [] gs) (hok : ∀ a ∈ gs, a.ok ∧ a.fs.good none) (hown : w.ownsRow H 60 4 sv gs.length cs) (hz : ZgsC w q gs cs) (hq : ∀ g, q g → g < w.heap.size) :
    Calls Tryz.prog 18 #[.int .u16 90, .int .u16 20, sv] w (ZPost w 90 20 (argsB [] gs 0 0)) := by
  obtain rfl : gs = [] := hpr
  obtain rfl : cs = [] := hz
  obtain ⟨A, c, rfl⟩ := own_shape hown
  refine (zz_txCommit A c).mono ?_
  rintro e w1 ⟨g, rfl, hg, hblk, hbel⟩
  refine ⟨258, g, 337, 340, rfl, hbel, ⟨fun w => by kernel_rfl, fun w => by kernel_rfl, fun w => by kernel_rfl, fun v w => by kernel_rfl, fun w' => calls_straight Tryz.func337 rfl (by kernel_rfl), fun w' B bb sv' xs h0 hB hb hBs hx => ?_⟩⟩
  have hblk' := hblk.below h0 hblk.lt
  have hcall := wr_txCommit (g := g) []  hblk' (by have := hblk.lt; omega) hb hBs hx 
  refine (Eq.subst (motive := fun z => Calls _ _ _ _ (Gave _ _ _ _ _ z)) ?_ hcall)
  clear hcall hblk' hbel h0 hb hblk hB hBs hx hg hown
  rfl

set_option maxRecDepth 100000 in
set_option maxHeartbeats 2000000 in
theorem zm_txCommitOk {w : World} {gs : List Ag} {H : Nat} {sv : Value} {cs : List Value} {q : Nat → Prop} (hpr : properF [] gs) (hok : ∀ a ∈ gs, a.ok ∧ a.fs.good none) (hown : w.ownsRow H 60 4 sv gs.length cs) (hz : ZgsC w q gs cs) (hq : ∀ g, q g → g < w.heap.size) :
    Calls Tryz.prog 18 #[.int .u16 90, .int .u16 21, sv] w (ZPost w 90 21 (argsB [] gs 0 0)) := by
  obtain rfl : gs = [] := hpr
  obtain rfl : cs = [] := hz
  obtain ⟨A, c, rfl⟩ := own_shape hown
  refine (zz_txCommitOk A c).mono ?_
  rintro e w1 ⟨g, rfl, hg, hblk, hbel⟩
  refine ⟨260, g, 341, 344, rfl, hbel, ⟨fun w => by kernel_rfl, fun w => by kernel_rfl, fun w => by kernel_rfl, fun v w => by kernel_rfl, fun w' => calls_straight Tryz.func341 rfl (by kernel_rfl), fun w' B bb sv' xs h0 hB hb hBs hx => ?_⟩⟩
  have hblk' := hblk.below h0 hblk.lt
  have hcall := wr_txCommitOk (g := g) []  hblk' (by have := hblk.lt; omega) hb hBs hx 
  refine (Eq.subst (motive := fun z => Calls _ _ _ _ (Gave _ _ _ _ _ z)) ?_ hcall)
  clear hcall hblk' hbel h0 hb hblk hB hBs hx hg hown
  rfl

set_option maxRecDepth 100000 in
set_option maxHeartbeats 2000000 in
theorem zm_txRollback {w : World} {gs : List Ag} {H : Nat} {sv : Value} {cs : List Value} {q : Nat → Prop} (hpr : properF [] gs) (hok : ∀ a ∈ gs, a.ok ∧ a.fs.good none) (hown : w.ownsRow H 60 4 sv gs.length cs) (hz : ZgsC w q gs cs) (hq : ∀ g, q g → g < w.heap.size) :
    Calls Tryz.prog 18 #[.int .u16 90, .int .u16 30, sv] w (ZPost w 90 30 (argsB [] gs 0 0)) := by
  obtain rfl : gs = [] := hpr
  obtain rfl : cs = [] := hz
  obtain ⟨A, c, rfl⟩ := own_shape hown
  refine (zz_txRollback A c).mono ?_
  rintro e w1 ⟨g, rfl, hg, hblk, hbel⟩
  refine ⟨262, g, 345, 348, rfl, hbel, ⟨fun w => by kernel_rfl, fun w => by kernel_rfl, fun w => by kernel_rfl, fun v w => by kernel_rfl, fun w' => calls_straight Tryz.func345 rfl (by kernel_rfl), fun w' B bb sv' xs h0 hB hb hBs hx => ?_⟩⟩
  have hblk' := hblk.below h0 hblk.lt
  have hcall := wr_txRollback (g := g) []  hblk' (by have := hblk.lt; omega) hb hBs hx 
  refine (Eq.subst (motive := fun z => Calls _ _ _ _ (Gave _ _ _ _ _ z)) ?_ hcall)
  clear hcall hblk' hbel h0 hb hblk hB hBs hx hg hown
  rfl

set_option maxRecDepth 100000 in
set_option maxHeartbeats 2000000 in
theorem zm_txRollbackOk {w : World} {gs : List Ag} {H : Nat} {sv : Value} {cs : List Value} {q : Nat → Prop} (hpr : properF [] gs) (hok : ∀ a ∈ gs, a.ok ∧ a.fs.good none) (hown : w.ownsRow H 60 4 sv gs.length cs) (hz : ZgsC w q gs cs) (hq : ∀ g, q g → g < w.heap.size) :
    Calls Tryz.prog 18 #[.int .u16 90, .int .u16 31, sv] w (ZPost w 90 31 (argsB [] gs 0 0)) := by
  obtain rfl : gs = [] := hpr
  obtain rfl : cs = [] := hz
  obtain ⟨A, c, rfl⟩ := own_shape hown
  refine (zz_txRollbackOk A c).mono ?_
  rintro e w1 ⟨g, rfl, hg, hblk, hbel⟩
  refine ⟨264, g, 349, 352, rfl, hbel, ⟨fun w => by kernel_rfl, fun w => by kernel_rfl, fun w => by kernel_rfl, fun v w => by kernel_rfl, fun w' => calls_straight Tryz.func349 rfl (by kernel_rfl), fun w' B bb sv' xs h0 hB hb hBs hx => ?_⟩⟩
  have hblk' := hblk.below h0 hblk.lt
  have hcall := wr_txRollbackOk (g := g) []  hblk' (by have := hblk.lt; omega) hb hBs hx 
  refine (Eq.subst (motive := fun z => Calls _ _ _ _ (Gave _ _ _ _ _ z)) ?_ hcall)
  clear hcall hblk' hbel h0 hb hblk hB hBs hx hg hown
  rfl

set_option maxRecDepth 100000 in
set_option maxHeartbeats 2000000 in
theorem zm_confirmSelect {w : World} {gs : List Ag} {H : Nat} {sv : Value} {cs : List Value} {q : Nat → Prop} (hpr : properF [98] gs) (hok : ∀ a ∈ gs, a.ok ∧ a.fs.good none) (hown : w.ownsRow H 60 4 sv gs.length cs) (hz : ZgsC w q gs cs) (hq : ∀ g, q g → g < w.heap.size) :
    Calls Tryz.prog 18 #[.int .u16 85, .int .u16 10, sv] w (ZPost w 85 10 (argsB [98] gs 0 0)) := by
  obtain ⟨a0, g1, rfl, f0, hpr⟩ := properF_hi (by decide) hpr
  replace f0 : a0.k = 6 ∧ a0.n ≤ 1 := f0
  obtain rfl : g1 = [] := hpr
  obtain ⟨o0, d0⟩ := hok a0 (by simp)
  obtain ⟨b0, cs0, rfl, T0, hz⟩ := hz
  obtain rfl : cs0 = [] := hz
  obtain ⟨k0, n0, t0, s0⟩ := a0
  obtain ⟨n0, rfl⟩ := Int.eq_ofNat_of_zero_le o0.2.1.1
  obtain ⟨rfl, e0⟩ : k0 = 6 ∧ _ := f0
  simp only at e0 d0 T0
  obtain ⟨r, c, rfl, hr, hc⟩ := own_cells hown (by simp)
  refine (zz_confirmSelect n0 t0 b0  hr hc).mono ?_
  rintro e w1 ⟨g, rfl, hg, hblk, hbel⟩
  refine ⟨266, g, 353, 356, rfl, hbel, ⟨fun w => by kernel_rfl, fun w => by kernel_rfl, fun w => by kernel_rfl, fun v w => by kernel_rfl, fun w' => calls_straight Tryz.func353 rfl (by kernel_rfl), fun w' B bb sv' xs h0 hB hb hBs hx => ?_⟩⟩
  have hblk' := hblk.below h0 hblk.lt
  have hcall := wr_confirmSelect (g := g) [] ((n0 : Int) != 0) hblk' (by have := hblk.lt; omega) hb hBs hx 
  have x0 : n0 = 0 ∨ n0 = 1 := by omega
  refine (Eq.subst (motive := fun z => Calls _ _ _ _ (Gave _ _ _ _ _ z)) ?_ hcall)
  clear hcall hblk' hbel h0 hb hblk hB hBs hx hg hown hr hc
  rcases x0 with rfl | rfl
  all_goals rw [argsB_98 rfl]
  all_goals simp [flushB, argsB_nil, orBit, bitv, be1]

set_option maxRecDepth 100000 in
set_option maxHeartbeats 2000000 in
theorem zm_confirmSelectOk {w : World} {gs : List Ag} {H : Nat} {sv : Value} {cs : List Value} {q : Nat → Prop} (hpr : properF [] gs) (hok : ∀ a ∈ gs, a.ok ∧ a.fs.good none) (hown : w.ownsRow H 60 4 sv gs.length cs) (hz : ZgsC w q gs cs) (hq : ∀ g, q g → g < w.heap.size) :
    Calls Tryz.prog 18 #[.int .u16 85, .int .u16 11, sv] w (ZPost w 85 11 (argsB [] gs 0 0)) := by
  obtain rfl : gs = [] := hpr
  obtain rfl : cs = [] := hz
  obtain ⟨A, c, rfl⟩ := own_shape hown
  refine (zz_confirmSelectOk A c).mono ?_
  rintro e w1 ⟨g, rfl, hg, hblk, hbel⟩
  refine ⟨269, g, 357, 360, rfl, hbel, ⟨fun w => by kernel_rfl, fun w => by kernel_rfl, fun w => by kernel_rfl, fun v w => by kernel_rfl, fun w' => calls_straight Tryz.func357 rfl (by kernel_rfl), fun w' B bb sv' xs h0 hB hb hBs hx => ?_⟩⟩
  have hblk' := hblk.below h0 hblk.lt
  have hcall := wr_confirmSelectOk (g := g) []  hblk' (by have := hblk.lt; omega) hb hBs hx 
  refine (Eq.subst (motive := fun z => Calls _ _ _ _ (Gave _ _ _ _ _ z)) ?_ hcall)
  clear hcall hblk' hbel h0 hb hblk hB hBs hx hg hown
  rfl

end Go.Proofs.YtabeppaehenefaaGreat
