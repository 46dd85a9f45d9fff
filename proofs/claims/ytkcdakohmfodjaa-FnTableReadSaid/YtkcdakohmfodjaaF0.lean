/-
  Floats: below a million (the statement's own two tests) no float64 overflows as a float32; a float32 goes through a float64 unharmed.
-/
import Derived.Test.YtkcdakohmfodjaaData
namespace Go.Proofs.Ytkcdakohmfodjaa
/-- below a million, by the statement's own two tests -/
def frange (f : Nat) : Bool := (Go.FloatKind.f64.format.order f 13920209183539462144 == some .gt) && (Go.FloatKind.f64.format.order f 4696837146684686336 == some .lt)
open Ieee

theorem cut_le (neg : Bool) (n drop b : Nat) (h : n / 2 ^ (min drop (n.log2 + 2)) < b) : Toward.even.cut neg n drop ≤ b := by
  unfold Toward.cut
  simp only [Nat.one_shiftLeft]
  have : ∀ x : Bool, x.toNat ≤ 1 := by intro x; cases x <;> decide
  have := this (decide (2 ^ min drop (n.log2 + 2) < 2 * (n % 2 ^ min drop (n.log2 + 2))) || (2 ^ min drop (n.log2 + 2) == 2 * (n % 2 ^ min drop (n.log2 + 2)) && n / 2 ^ min drop (n.log2 + 2) % 2 == 1))
  omega

theorem kept_le (neg : Bool) (mag : Nat) (place : Int) (_hm : mag ≠ 0) :
    Toward.even.cut neg (mag <<< (place - max (place + mag.log2 - 23) (-149)).toNat) (max (place + mag.log2 - 23) (-149) - place).toNat ≤ 2 ^ 24 := by
  have hlt : mag < 2 ^ (mag.log2 + 1) := Nat.lt_log2_self
  apply cut_le
  by_cases hp : max (place + mag.log2 - 23) (-149) ≤ place
  · have e0 : (max (place + (mag.log2 : Int) - 23) (-149) - place).toNat = 0 := by omega
    rw [e0]
    simp only [Nat.zero_min, Nat.pow_zero, Nat.div_one, Nat.shiftLeft_eq]
    have hk : (place - max (place + (mag.log2 : Int) - 23) (-149)).toNat + mag.log2 ≤ 23 := by omega
    calc mag * 2 ^ (place - max (place + (mag.log2 : Int) - 23) (-149)).toNat < 2 ^ (mag.log2 + 1) * 2 ^ (place - max (place + (mag.log2 : Int) - 23) (-149)).toNat := Nat.mul_lt_mul_of_pos_right hlt (Nat.pow_pos (by omega))
      _ = 2 ^ (mag.log2 + 1 + (place - max (place + (mag.log2 : Int) - 23) (-149)).toNat) := by rw [← Nat.pow_add]
      _ ≤ 2 ^ 24 := Nat.pow_le_pow_right (by omega) (by omega)
  · have e0 : (place - max (place + (mag.log2 : Int) - 23) (-149)).toNat = 0 := by omega
    rw [e0, Nat.shiftLeft_zero]
    apply Nat.div_lt_of_lt_mul
    have hd : mag.log2 + 1 ≤ min (max (place + (mag.log2 : Int) - 23) (-149) - place).toNat (mag.log2 + 2) + 24 := by omega
    calc mag < 2 ^ (mag.log2 + 1) := hlt
      _ ≤ 2 ^ (min (max (place + (mag.log2 : Int) - 23) (-149) - place).toNat (mag.log2 + 2) + 24) := Nat.pow_le_pow_right (by omega) hd
      _ = _ := by rw [Nat.pow_add]

theorem near_finite (neg : Bool) (mag : Nat) (place : Int) (hm : mag < 2 ^ 53) (hp : place ≤ -33) : (single.read (single.nearest neg mag place)).isInfinity = false := by
  have hr : ∀ rung, rung < 255 * 8388608 → (single.read (single.word neg rung)).isInfinity = false := by
    intro rung h
    have e1 : single.binade = 8388608 := by decide
    have e2 : single.infRung = 255 * 8388608 := by decide
    have e3 : single.signWeight = 2147483648 := by decide
    have e4 : single.word neg rung % 2147483648 = rung := by
      unfold Format.word
      rw [e3]
      split <;> omega
    unfold Format.read
    simp only [e1, e2, e3, e4]
    split
    · rfl
    · first | rfl | (rw [if_pos h]; rfl)
  unfold Format.nearest
  by_cases h0 : mag = 0
  · rw [if_pos h0]; exact hr 0 (by omega)
  · rw [if_neg h0]
    have hk := kept_le neg mag place h0
    have hl : mag.log2 ≤ 52 := by
      have := (Nat.log2_lt h0 (k := 53)).2 hm
      omega
    have e1 : single.binade = 8388608 := by decide
    have e2 : single.infRung = 255 * 8388608 := by decide
    have e3 : single.leastPlace = -149 := by decide
    have e4 : single.fractionBits = 23 := rfl
    simp only [e1, e2, e3, e4]
    apply hr
    have hk' : Toward.even.cut neg (mag <<< (place - max (place + (mag.log2 : Int) - (23 : Nat)) (-149)).toNat) (max (place + (mag.log2 : Int) - (23 : Nat)) (-149) - place).toNat ≤ 16777216 := hk
    omega

theorem range_number (f : Nat) (h : frange f = true) : ∃ s m e, Go.FloatKind.f64.decode f = .number s m e ∧ m < 2 ^ 53 ∧ e ≤ -33 := by
  unfold frange at h
  rw [Bool.and_eq_true] at h
  obtain ⟨h1, h2⟩ := h
  have h1 : double.order f 13920209183539462144 = some .gt := beq_iff_eq.1 h1
  have h2 : double.order f 4696837146684686336 = some .lt := beq_iff_eq.1 h2
  have a1 : double.read 13920209183539462144 = .number true 8589934592000000 (-33) := by decide
  have a2 : double.read 4696837146684686336 = .number false 8589934592000000 (-33) := by decide
  unfold Format.order at h1 h2
  rw [a1] at h1
  rw [a2] at h2
  have hd : Go.FloatKind.f64.decode f = double.read f := rfl
  rw [hd]
  have e1 : double.binade = 2 ^ 52 := by decide
  have e2 : double.infRung = 2047 * 2 ^ 52 := by decide
  have e3 : double.signWeight = 2 ^ 63 := by decide
  have e4 : double.leastPlace = -1074 := by decide
  have hread : double.read f = (let neg := f / 2 ^ 63 % 2 == 1; let rung := f % 2 ^ 63; if rung < 2 ^ 52 then .number neg rung (-1074) else if rung < 2047 * 2 ^ 52 then .number neg (2 ^ 52 + rung % 2 ^ 52) (-1074 + (rung / 2 ^ 52 - 1 : Nat)) else if rung = 2047 * 2 ^ 52 then .infinity neg else .nan neg (rung - 2047 * 2 ^ 52)) := by
    unfold Format.read
    simp only [e1, e2, e3, e4]
  rw [hread] at h1 h2 ⊢
  generalize (f / 2 ^ 63 % 2 == 1) = neg at h1 h2 ⊢
  generalize f % 2 ^ 63 = rung at h1 h2 ⊢
  simp only at h1 h2 ⊢
  by_cases c1 : rung < 2 ^ 52
  · rw [if_pos c1]
    exact ⟨_, _, _, rfl, by omega, by omega⟩
  rw [if_neg c1] at h1 h2 ⊢
  by_cases c2 : rung < 2047 * 2 ^ 52
  · rw [if_pos c2] at h1 h2 ⊢
    refine ⟨_, _, _, rfl, by have := Nat.mod_lt rung (show 0 < 2 ^ 52 by decide); omega, ?_⟩
    generalize hE : rung / 2 ^ 52 - 1 = E at h1 h2 ⊢
    generalize hM : rung % 2 ^ 52 = M at h1 h2
    apply Classical.byContradiction
    intro hgt
    have hb : min (-1074 + (E : Int)) (-33) = -33 := by omega
    have hu : ∃ u : Nat, (-1074 + (E : Int) - -33).toNat = u + 1 := ⟨E - 1042, by omega⟩
    obtain ⟨u, hu⟩ := hu
    have hbig : 2 ^ 53 ≤ (2 ^ 52 + M) <<< (u + 1) := by
      rw [Nat.shiftLeft_eq]
      calc 2 ^ 53 = 2 ^ 52 * 2 := by decide
        _ ≤ (2 ^ 52 + M) * 2 ^ (u + 1) := Nat.mul_le_mul (by omega) (by rw [Nat.pow_succ]; have := Nat.pow_pos (n := u) (show 0 < 2 by decide); omega)
    simp only [Datum.order, hb, hu, Option.some.injEq] at h1 h2
    have z : ((-33 : Int) - -33).toNat = 0 := by decide
    rw [z] at h1 h2
    cases neg with
    | true =>
      simp only [signed, if_true, Nat.shiftLeft_zero] at h1
      have := Int.compare_eq_gt.1 h1
      omega
    | false =>
      simp only [signed, Bool.false_eq_true, if_false, Nat.shiftLeft_zero] at h2
      have := Int.compare_eq_lt.1 h2
      omega
  rw [if_neg c2] at h1 h2 ⊢
  by_cases c3 : rung = 2047 * 2 ^ 52
  · rw [if_pos c3] at h1 h2
    simp only [Datum.order, Option.some.injEq] at h1 h2
    cases neg <;> simp at h1 h2
  · rw [if_neg c3] at h1
    simp [Datum.order] at h1

theorem f32_finite (f : Nat) (h : frange f = true) : ∃ s m e, Go.FloatKind.f64.decode f = .number s m e ∧ (Go.FloatKind.f32.decode (Go.FloatKind.f32.encode (.number s m e))).isInfinity = false := by
  obtain ⟨s, m, e, h1, h2, h3⟩ := range_number f h
  exact ⟨s, m, e, h1, near_finite s m e h2 h3⟩


/-- a float64 that is a number as a float32 too -/
def okF (f : Nat) : Prop := ∃ s m e, Go.FloatKind.f64.decode f = .number s m e ∧ (Go.FloatKind.f32.decode (Go.FloatKind.f32.encode (.number s m e))).isInfinity = false
theorem okF_frange {f : Nat} (h : frange f = true) : okF f := f32_finite f h

end Go.Proofs.Ytkcdakohmfodjaa
