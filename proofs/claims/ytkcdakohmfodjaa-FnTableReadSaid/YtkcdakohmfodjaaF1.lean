/-
  Floats: a float32 goes through a float64 unharmed.
-/
import Derived.Test.YtkcdakohmfodjaaF0
namespace Go.Proofs.Ytkcdakohmfodjaa
open Ieee

theorem cut_exact (neg : Bool) (m d : Nat) (hm : 0 < m) : Toward.even.cut neg (m * 2 ^ d) d = m := by
  have hp : 0 < 2 ^ d := Nat.pow_pos (by decide)
  have hl : d ≤ (m * 2 ^ d).log2 := by
    rw [Nat.le_log2 (by have := Nat.mul_pos hm hp; omega)]
    calc 2 ^ d = 1 * 2 ^ d := by rw [Nat.one_mul]
      _ ≤ m * 2 ^ d := Nat.mul_le_mul_right _ hm
  have hmin : min d ((m * 2 ^ d).log2 + 2) = d := by omega
  unfold Toward.cut
  simp only [Nat.one_shiftLeft, hmin, Nat.mul_div_cancel _ hp, Nat.mul_mod_left, Nat.mul_zero]
  have h1 : ¬ (2 ^ d < 0) := by omega
  have h2 : (2 ^ d == 0) = false := by simp
  simp [h2]

theorem sread (b : Nat) : single.read b = (let neg := b / 2147483648 % 2 == 1; let rung := b % 2147483648; if rung < 8388608 then .number neg rung (-149) else if rung < 2139095040 then .number neg (8388608 + rung % 8388608) (-149 + (rung / 8388608 - 1 : Nat)) else if rung = 2139095040 then .infinity neg else .nan neg (rung - 2139095040)) := by
  have e1 : single.binade = 8388608 := by decide
  have e2 : single.infRung = 2139095040 := by decide
  have e3 : single.signWeight = 2147483648 := by decide
  have e4 : single.leastPlace = -149 := by decide
  unfold Format.read
  simp only [e1, e2, e3, e4]
theorem dread (f : Nat) : double.read f = (let neg := f / 9223372036854775808 % 2 == 1; let rung := f % 9223372036854775808; if rung < 4503599627370496 then .number neg rung (-1074) else if rung < 9218868437227405312 then .number neg (4503599627370496 + rung % 4503599627370496) (-1074 + (rung / 4503599627370496 - 1 : Nat)) else if rung = 9218868437227405312 then .infinity neg else .nan neg (rung - 9218868437227405312)) := by
  have e1 : double.binade = 4503599627370496 := by decide
  have e2 : double.infRung = 9218868437227405312 := by decide
  have e3 : double.signWeight = 9223372036854775808 := by decide
  have e4 : double.leastPlace = -1074 := by decide
  unfold Format.read
  simp only [e1, e2, e3, e4]

/-- what a float32 stands for -/
theorem sread_inv {b : Nat} {s : Bool} {m : Nat} {e : Int} (h : single.read b = .number s m e) (hb : b < 4294967296) :
    m < 16777216 ∧ -149 ≤ e ∧ e ≤ 104 ∧ (e = -149 ∨ 8388608 ≤ m) ∧ (m < 8388608 → e = -149) ∧ b = single.word s ((e + 149).toNat * 8388608 + m) ∧ (e + 149).toNat * 8388608 + m < 2139095040 := by
  rw [sread] at h
  have e3 : single.signWeight = 2147483648 := by decide
  have hw : ∀ x, (if (b / 2147483648 % 2 == 1) = true then 2147483648 + x else x) = 2147483648 * (b / 2147483648) + x := by
    intro x
    have : b / 2147483648 = 0 ∨ b / 2147483648 = 1 := by omega
    rcases this with h | h <;> rw [h] <;> simp
  simp only at h
  have hdm := Nat.div_add_mod b (2147483648)
  split at h
  · injection h with h1 h2 h3
    subst h1 h2 h3
    unfold Format.word
    rw [e3, hw]
    refine ⟨by omega, by omega, by omega, .inl rfl, fun _ => rfl, ?_, ?_⟩
    · have : ((-149 : Int) + 149).toNat = 0 := by decide
      rw [this]; omega
    · have : ((-149 : Int) + 149).toNat = 0 := by decide
      rw [this]; omega
  · split at h
    · injection h with h1 h2 h3
      subst h1 h2 h3
      unfold Format.word
      rw [e3, hw]
      have hr := Nat.div_add_mod (b % 2147483648) (8388608)
      have hz : (-149 + ((b % 2147483648 / 8388608 - 1 : Nat) : Int) + 149).toNat = b % 2147483648 / 8388608 - 1 := by omega
      rw [hz]
      refine ⟨by omega, by omega, by omega, .inr (by omega), fun h => by omega, ?_, ?_⟩ <;> omega
    · split at h <;> cases h

theorem log_bounds (m : Nat) (hm : 0 < m) (hm2 : m < 16777216) : m.log2 ≤ 23 ∧ 4503599627370496 ≤ m * 2 ^ (52 - m.log2) ∧ m * 2 ^ (52 - m.log2) < 9007199254740992 := by
  have hl : m.log2 ≤ 23 := by
    have := (Nat.log2_lt (by omega : m ≠ 0) (k := 24)).2 hm2
    omega
  have h1 : 2 ^ m.log2 ≤ m := Nat.log2_self_le (by omega)
  have h2 : m < 2 ^ (m.log2 + 1) := Nat.lt_log2_self
  refine ⟨hl, ?_, ?_⟩
  · calc 4503599627370496 = 2 ^ 52 := by decide
      _ = 2 ^ m.log2 * 2 ^ (52 - m.log2) := by rw [← Nat.pow_add]; congr 1; omega
      _ ≤ _ := Nat.mul_le_mul_right _ h1
  · calc m * 2 ^ (52 - m.log2) < 2 ^ (m.log2 + 1) * 2 ^ (52 - m.log2) := Nat.mul_lt_mul_of_pos_right h2 (Nat.pow_pos (by decide))
      _ = 2 ^ 53 := by rw [← Nat.pow_add]; congr 1; omega
      _ = 9007199254740992 := by decide

theorem dword_read (s : Bool) (r : Nat) (hr : r < 9218868437227405312) (h0 : 4503599627370496 ≤ r) : double.read (double.word s r) = .number s (4503599627370496 + r % 4503599627370496) (-1074 + (r / 4503599627370496 - 1 : Nat)) := by
  have e3 : double.signWeight = 9223372036854775808 := by decide
  rw [dread]
  unfold Format.word
  rw [e3]
  cases s
  · have h1 : r / 9223372036854775808 % 2 = 0 := by omega
    have h2 : r % 9223372036854775808 = r := by omega
    simp only [Bool.false_eq_true, if_false, h1, h2]
    rw [if_neg (by omega), if_pos hr]
    rfl
  · have h1 : (9223372036854775808 + r) / 9223372036854775808 % 2 = 1 := by omega
    have h2 : (9223372036854775808 + r) % 9223372036854775808 = r := by omega
    simp only [if_true, h1, h2]
    rw [if_neg (by omega), if_pos hr]
    rfl

theorem dfin (K X : Nat) (hk1 : 4503599627370496 ≤ K) (hk2 : K < 9007199254740992) (hX : X ≤ 1149) : 
   min (X * 4503599627370496 + K) 9218868437227405312 = X * 4503599627370496 + K ∧ 4503599627370496 + (X * 4503599627370496 + K) % 4503599627370496 = K ∧ (X * 4503599627370496 + K) / 4503599627370496 = X + 1 ∧ X * 4503599627370496 + K < 9218868437227405312 ∧ 4503599627370496 ≤ X * 4503599627370496 + K := by
  refine ⟨by omega, by omega, by omega, by omega, by omega⟩
theorem dnear (s : Bool) (m : Nat) (e : Int) (hm : 0 < m) (hm2 : m < 16777216) (h1 : -149 ≤ e) (h2 : e ≤ 104) :
    double.read (double.nearest s m e) = .number s (m * 2 ^ (52 - m.log2)) (e + m.log2 - 52) := by
  obtain ⟨hl, hk1, hk2⟩ := log_bounds m hm hm2
  have e1 : double.binade = 4503599627370496 := by decide
  have e2 : double.infRung = 9218868437227405312 := by decide
  have e4 : double.leastPlace = -1074 := by decide
  have e5 : double.fractionBits = 52 := rfl
  unfold Format.nearest
  rw [if_neg (by omega)]
  have hlast : max (e + (m.log2 : Int) - (52 : Nat)) (-1074) = e + m.log2 - 52 := by omega
  simp only [e1, e2, e4, e5, hlast]
  have hp : (e - (e + (m.log2 : Int) - 52)).toNat = 52 - m.log2 := by omega
  have hq : (e + (m.log2 : Int) - 52 - e).toNat = 0 := by omega
  rw [hp, hq, Nat.shiftLeft_eq]
  have hcut : Toward.even.cut s (m * 2 ^ (52 - m.log2)) 0 = m * 2 ^ (52 - m.log2) := by
    have := cut_exact s (m * 2 ^ (52 - m.log2)) 0 (by omega)
    rwa [Nat.pow_zero, Nat.mul_one] at this
  rw [hcut]
  generalize m * 2 ^ (52 - m.log2) = K at hk1 hk2 ⊢
  have hx : ∃ X : Nat, (e + (m.log2 : Int) - 52 - -1074).toNat = X ∧ (X : Int) = e + m.log2 - 52 + 1074 ∧ X ≤ 1149 := ⟨_, rfl, by omega, by omega⟩
  obtain ⟨X, hX, hX1, hX2⟩ := hx
  rw [hX]
  obtain ⟨d1, d2, d3, d4, d5⟩ := dfin K X hk1 hk2 hX2
  rw [d1, dword_read s _ d4 d5, d2, d3]
  rw [Nat.add_sub_cancel, show (-1074 + (X : Int)) = e + m.log2 - 52 by omega]

theorem p52 : (2:Nat) ^ 52 = 4503599627370496 := by decide
theorem p53 : (2:Nat) ^ 53 = 9007199254740992 := by decide
theorem log52 (K : Nat) (hk1 : 4503599627370496 ≤ K) (hk2 : K < 9007199254740992) : K.log2 = 52 := 
  (Nat.log2_eq_iff (by omega)).2 ⟨by rw [p52]; exact hk1, by show K < 2 ^ 53; rw [p53]; exact hk2⟩
theorem log23 (m : Nat) (h : 8388608 ≤ m) (hm2 : m < 16777216) : m.log2 = 23 := (Nat.log2_eq_iff (by omega)).2 ⟨by simpa using h, by simpa using hm2⟩
theorem sfin (X m : Nat) (h3 : X * 8388608 + m < 2139095040) : min (X * 8388608 + m) 2139095040 = X * 8388608 + m := by omega
theorem snear (s : Bool) (m : Nat) (e : Int) (hm : 0 < m) (hm2 : m < 16777216) (h1 : -149 ≤ e) (h2 : e = -149 ∨ 8388608 ≤ m) (h3 : (e + 149).toNat * 8388608 + m < 2139095040) :
    single.nearest s (m * 2 ^ (52 - m.log2)) (e + m.log2 - 52) = single.word s ((e + 149).toNat * 8388608 + m) := by
  obtain ⟨hl, hk1, hk2⟩ := log_bounds m hm hm2
  have e1 : single.binade = 8388608 := by decide
  have e2 : single.infRung = 2139095040 := by decide
  have e4 : single.leastPlace = -149 := by decide
  have e5 : single.fractionBits = 23 := rfl
  have hlog : (m * 2 ^ (52 - m.log2)).log2 = 52 := log52 _ hk1 hk2
  have hcut := cut_exact s m (52 - m.log2) hm
  have hlast : max (e + (m.log2 : Int) - 52 + ((52 : Nat) : Int) - ((23 : Nat) : Int)) (-149) = e := by
    rcases h2 with h | h
    · omega
    · have := log23 m h hm2; omega
  have hp : (e + (m.log2 : Int) - 52 - e).toNat = 0 := by omega
  have hq : (e - (e + (m.log2 : Int) - 52)).toNat = 52 - m.log2 := by omega
  have hE : e - -149 = e + 149 := by omega
  have hne : ¬ (m * 2 ^ (52 - m.log2) = 0) := by
    generalize m * 2 ^ (52 - m.log2) = K at hk1
    omega
  clear hk1 hk2
  generalize m * 2 ^ (52 - m.log2) = K at hlog hcut hne ⊢
  unfold Format.nearest
  rw [if_neg hne]
  simp only [e1, e2, e4, e5, hlog]
  rw [hlast, hp, hq, Nat.shiftLeft_zero, hcut, hE, sfin _ _ h3]

/-- a float32 that is a number goes through a float64 unharmed -/
theorem round32 {b : Nat} {s : Bool} {m : Nat} {e : Int} (h : single.read b = .number s m e) (hb : b < 4294967296) :
    ∃ m' e', double.read (double.nearest s m e) = .number s m' e' ∧ single.nearest s m' e' = b := by
  obtain ⟨h1, h2, h3, h4, h5, h6, h7⟩ := sread_inv h hb
  rcases Nat.eq_zero_or_pos m with h0 | h0
  · subst h0
    have e0 := h5 (by decide)
    subst e0
    refine ⟨0, -1074, ?_, ?_⟩
    · cases s <;> decide
    · rw [h6]; cases s <;> decide
  · exact ⟨_, _, dnear s m e h0 h1 h2 h3, by rw [snear s m e h0 h1 h2 h4 h7, h6]⟩

end Go.Proofs.Ytkcdakohmfodjaa
