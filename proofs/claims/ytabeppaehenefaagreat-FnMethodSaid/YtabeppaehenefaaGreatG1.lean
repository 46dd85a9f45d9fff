/-
  Floats: below a million (the statement's own two tests) no float64 overflows as a float32; a float32 goes through a float64 unharmed.
  What the statements' functions make of an input: cut, proper, good; and that a proper cut of an input says that the input is good and has the same bytes.
  What is proper is good, and short.
-/
import Derived.Test.YtabeppaehenefaaGreatData
import GoSem.Op.String
namespace Go.Proofs.YtabeppaehenefaaGreat
set_option linter.unusedVariables false
/-- below a million, by the statement's own two tests -/
def frange (f : Nat) : Bool := (Go.FloatKind.f64.format.order f 13920209183539462144 == some .gt) && (Go.FloatKind.f64.format.order f 4696837146684686336 == some .lt)
open Ieee

theorem cut_le (neg : Bool) (n drop b : Nat) (h : n / 2 ^ (min drop (n.log2 + 2)) < b) : Toward.even.cut neg n drop ≤ b := by
  unfold Toward.cut
  simp only [Nat.one_shiftLeft]
  have : ∀ x : Bool, x.toNat ≤ 1 := by intro x; cases x <;> decide
  have := this (decide (2 ^ min drop (n.log2 + 2) < 2 * (n % 2 ^ min drop (n.log2 + 2))) || (2 ^ min drop (n.log2 + 2) == 2 * (n % 2 ^ min drop (n.log2 + 2)) && n / 2 ^ min drop (n.log2 + 2) % 2 == 1))
  omega

theorem kept_le (neg : Bool) (mag : Nat) (place : Int) (hm : mag ≠ 0) :
    Toward.even.cut neg (mag <<< (place - max (place + mag.log2 - 23) (-149)).toNat) (max (place + mag.log2 - 23) (-149) - place).toNat ≤ 2 ^ 24 := by
  have hlt : mag < 2 ^ (mag.log2 + 1) := Nat.lt_log2_self
  apply cut_le
  by_cases hp : max (place + mag.log2 - 23) (-149) ≤ place
  · have e0 : (max (place + (mag.log2 : Int) - 23) (-149) - place).toNat = 0 := by omega
    rw [e0]
    simp only [Nat.zero_min, Nat.pow_zero, Nat.div_one, Nat.shiftLeft_eq]
    have hk : (place - max (place + (mag.log2 : Int) - 23) (-149)).toNat + mag.log2 ≤ 23 := by omega
    calc mag * 2 ^ (place - max (place + (mag.log2 : Int) - 23) (-149)).toNat < 2 ^ (mag.log2 + 1) * 2 ^ (place - max (place + (mag.log2 : Int) - 23) (-149)).toNat := Nat.mul_lt_mul_of_pos_right hlt (Nat.pow_pos (by omega))
      _ = 2 ^ (mag.log2 + 1 + (place - max (place + (mag.log2 : Int) - 23) (-149)).toNat) := by rw [← Nat.pow_add]
      _ ≤ 2 ^ 24 := Nat.pow_le_pow_right (by omega) (by omega)
  · have e0 : (place - max (place + (mag.log2 : Int) - 23) (-149)).toNat = 0 := by omega
    rw [e0, Nat.shiftLeft_zero]
    apply Nat.div_lt_of_lt_mul
    have hd : mag.log2 + 1 ≤ min (max (place + (mag.log2 : Int) - 23) (-149) - place).toNat (mag.log2 + 2) + 24 := by omega
    calc mag < 2 ^ (mag.log2 + 1) := hlt
      _ ≤ 2 ^ (min (max (place + (mag.log2 : Int) - 23) (-149) - place).toNat (mag.log2 + 2) + 24) := Nat.pow_le_pow_right (by omega) hd
      _ = _ := by rw [Nat.pow_add]

theorem near_finite (neg : Bool) (mag : Nat) (place : Int) (hm : mag < 2 ^ 53) (hp : place ≤ -33) : (single.read (single.nearest neg mag place)).isInfinity = false := by
  have hr : ∀ rung, rung < 255 * 8388608 → (single.read (single.word neg rung)).isInfinity = false := by
    intro rung h
    have e1 : single.binade = 8388608 := by decide
    have e2 : single.infRung = 255 * 8388608 := by decide
    have e3 : single.signWeight = 2147483648 := by decide
    have e4 : single.word neg rung % 2147483648 = rung := by
      unfold Format.word
      rw [e3]
      split <;> omega
    unfold Format.read
    simp only [e1, e2, e3, e4]
    split
    · rfl
    · first | rfl | (rw [if_pos h]; rfl)
  unfold Format.nearest
  by_cases h0 : mag = 0
  · rw [if_pos h0]; exact hr 0 (by omega)
  · rw [if_neg h0]
    have hk := kept_le neg mag place h0
    have hl : mag.log2 ≤ 52 := by
      have := (Nat.log2_lt h0 (k := 53)).2 hm
      omega
    have e1 : single.binade = 8388608 := by decide
    have e2 : single.infRung = 255 * 8388608 := by decide
    have e3 : single.leastPlace = -149 := by decide
    have e4 : single.fractionBits = 23 := rfl
    simp only [e1, e2, e3, e4]
    apply hr
    have hk' : Toward.even.cut neg (mag <<< (place - max (place + (mag.log2 : Int) - (23 : Nat)) (-149)).toNat) (max (place + (mag.log2 : Int) - (23 : Nat)) (-149) - place).toNat ≤ 16777216 := hk
    omega

theorem range_number (f : Nat) (h : frange f = true) : ∃ s m e, Go.FloatKind.f64.decode f = .number s m e ∧ m < 2 ^ 53 ∧ e ≤ -33 := by
  unfold frange at h
  rw [Bool.and_eq_true] at h
  obtain ⟨h1, h2⟩ := h
  have h1 : double.order f 13920209183539462144 = some .gt := beq_iff_eq.1 h1
  have h2 : double.order f 4696837146684686336 = some .lt := beq_iff_eq.1 h2
  have a1 : double.read 13920209183539462144 = .number true 8589934592000000 (-33) := by decide
  have a2 : double.read 4696837146684686336 = .number false 8589934592000000 (-33) := by decide
  unfold Format.order at h1 h2
  rw [a1] at h1
  rw [a2] at h2
  have hd : Go.FloatKind.f64.decode f = double.read f := rfl
  rw [hd]
  have e1 : double.binade = 2 ^ 52 := by decide
  have e2 : double.infRung = 2047 * 2 ^ 52 := by decide
  have e3 : double.signWeight = 2 ^ 63 := by decide
  have e4 : double.leastPlace = -1074 := by decide
  have hread : double.read f = (let neg := f / 2 ^ 63 % 2 == 1; let rung := f % 2 ^ 63; if rung < 2 ^ 52 then .number neg rung (-1074) else if rung < 2047 * 2 ^ 52 then .number neg (2 ^ 52 + rung % 2 ^ 52) (-1074 + (rung / 2 ^ 52 - 1 : Nat)) else if rung = 2047 * 2 ^ 52 then .infinity neg else .nan neg (rung - 2047 * 2 ^ 52)) := by
    unfold Format.read
    simp only [e1, e2, e3, e4]
  rw [hread] at h1 h2 ⊢
  generalize (f / 2 ^ 63 % 2 == 1) = neg at h1 h2 ⊢
  generalize f % 2 ^ 63 = rung at h1 h2 ⊢
  simp only at h1 h2 ⊢
  by_cases c1 : rung < 2 ^ 52
  · rw [if_pos c1]
    exact ⟨_, _, _, rfl, by omega, by omega⟩
  rw [if_neg c1] at h1 h2 ⊢
  by_cases c2 : rung < 2047 * 2 ^ 52
  · rw [if_pos c2] at h1 h2 ⊢
    refine ⟨_, _, _, rfl, by have := Nat.mod_lt rung (show 0 < 2 ^ 52 by decide); omega, ?_⟩
    generalize hE : rung / 2 ^ 52 - 1 = E at h1 h2 ⊢
    generalize hM : rung % 2 ^ 52 = M at h1 h2
    apply Classical.byContradiction
    intro hgt
    have hb : min (-1074 + (E : Int)) (-33) = -33 := by omega
    have hu : ∃ u : Nat, (-1074 + (E : Int) - -33).toNat = u + 1 := ⟨E - 1042, by omega⟩
    obtain ⟨u, hu⟩ := hu
    have hbig : 2 ^ 53 ≤ (2 ^ 52 + M) <<< (u + 1) := by
      rw [Nat.shiftLeft_eq]
      calc 2 ^ 53 = 2 ^ 52 * 2 := by decide
        _ ≤ (2 ^ 52 + M) * 2 ^ (u + 1) := Nat.mul_le_mul (by omega) (by rw [Nat.pow_succ]; have := Nat.pow_pos (n := u) (show 0 < 2 by decide); omega)
    simp only [Datum.order, hb, hu, Option.some.injEq] at h1 h2
    have z : ((-33 : Int) - -33).toNat = 0 := by decide
    rw [z] at h1 h2
    cases neg with
    | true =>
      simp only [signed, if_true, Nat.shiftLeft_zero] at h1
      have := Int.compare_eq_gt.1 h1
      omega
    | false =>
      simp only [signed, Bool.false_eq_true, if_false, Nat.shiftLeft_zero] at h2
      have := Int.compare_eq_lt.1 h2
      omega
  rw [if_neg c2] at h1 h2 ⊢
  by_cases c3 : rung = 2047 * 2 ^ 52
  · rw [if_pos c3] at h1 h2
    simp only [Datum.order, Option.some.injEq] at h1 h2
    cases neg <;> simp at h1 h2
  · rw [if_neg c3] at h1
    simp [Datum.order] at h1

theorem f32_finite (f : Nat) (h : frange f = true) : ∃ s m e, Go.FloatKind.f64.decode f = .number s m e ∧ (Go.FloatKind.f32.decode (Go.FloatKind.f32.encode (.number s m e))).isInfinity = false := by
  obtain ⟨s, m, e, h1, h2, h3⟩ := range_number f h
  exact ⟨s, m, e, h1, near_finite s m e h2 h3⟩


/-- a float64 that is a number as a float32 too -/
def okF (f : Nat) : Prop := ∃ s m e, Go.FloatKind.f64.decode f = .number s m e ∧ (Go.FloatKind.f32.decode (Go.FloatKind.f32.encode (.number s m e))).isInfinity = false
theorem okF_frange {f : Nat} (h : frange f = true) : okF f := f32_finite f h

end Go.Proofs.YtabeppaehenefaaGreat

namespace Go.Proofs.YtabeppaehenefaaGreat
set_option linter.unusedVariables false
/-! ### what the statements' functions make of an input -/
mutual
def V.cut : V → Nat → Int → V × Int
  | .mk k n f s t ks fs, d, r =>
    if r - (1 + t.size) < 0 ∨ d = 0 then (zeroV, r - (1 + t.size)) else
    match fs.cutO (d - 1) (r - (1 + t.size)) with
    | (fs', r2) =>
      match ks.cut (d - 1) r2 with
      | (some ks', r3) => (.mk k n f s t ks' (fs'.getD (.cons ⟨#[]⟩ zeroV .nil)), r3)
      | (none, r3) => (zeroV, r3)
def Vs.cut : Vs → Nat → Int → Option Vs × Int
  | .nil, _, r => (some .nil, r)
  | .cons v q, d, r =>
    if r < 0 then (none, r) else
    match v.cut d r with
    | (v', r1) =>
      match q.cut d r1 with
      | (some q', r2) => (some (.cons v' q'), r2)
      | (none, r2) => (none, r2)
def Fs.cutO : Fs → Nat → Int → Option Fs × Int
  | .nil, _, r => (some .nil, r)
  | .cons name v q, d, r =>
    match v.cut d (r - name.size) with
    | (v', r1) =>
      if r1 < 0 then (none, r1) else
      match q.cutO d r1 with
      | (some q', r2) => (some (.cons name v' q'), r2)
      | (none, r2) => (none, r2)
end

abbrev oneF : Fs := .cons ⟨#[]⟩ zeroV .nil
def Fs.cut (fs : Fs) (d : Nat) (r : Int) : Fs := ((fs.cutO d r).1).getD oneF

/-! ### properness, with the room that is left -/
def bounds (k : Int) : Option Nat := if k = 98 then some 8 else if k = 115 then some 16 else if k = 73 ∨ k = 68 then some 32 else none
def inBits (k n : Int) : Bool := match bounds k with
  | some b => !(decide (n < -(2 ^ (b - 1) : Nat)) || decide (n > (2 ^ (b - 1) : Nat) - 1))
  | none => true



def nameLess (a b : ByteArray) : Bool := Go.Op.bytesLess a.toList b.toList

def prevOk : Option ByteArray → ByteArray → Bool
  | some p, name => nameLess p name
  | none, _ => true

mutual
/-- the room that is left behind a proper value -/
def V.fit : V → Nat → Int → Option Int
  | .mk k n f s t ks fs, d, r =>
    if r - (1 + t.size) < 0 ∨ d = 0 then none
    else if inBits k n = false then none
    else if k = 116 then (if n = 0 ∨ n = 1 then some (r - (1 + t.size)) else none)
    else if k = 66 then (if 0 ≤ n ∧ n ≤ 255 then some (r - (1 + t.size)) else none)
    else if k = 84 then (if 0 ≤ n ∧ n < 1099511627776 then some (r - (1 + t.size)) else none)
    else if k = 102 ∨ k = 100 then (if frange f = true then some (r - (1 + t.size)) else none)
    else if k = 68 then (if 0 ≤ s ∧ s ≤ 255 then some (r - (1 + t.size)) else none)
    else if k = 65 then ks.fit (d - 1) (r - (1 + t.size))
    else if k = 70 then fs.fit (d - 1) none (r - (1 + t.size))
    else if k = 98 ∨ k = 115 ∨ k = 73 ∨ k = 108 ∨ k = 83 ∨ k = 120 ∨ k = 86 then some (r - (1 + t.size))
    else none
def Vs.fit : Vs → Nat → Int → Option Int
  | .nil, _, r => some r
  | .cons v q, d, r => match v.fit d r with
    | some r1 => q.fit d r1
    | none => none
def Fs.fit : Fs → Nat → Option ByteArray → Int → Option Int
  | .nil, _, _, r => some r
  | .cons name v q, d, prev, r =>
    if name.size > 255 ∨ r - (1 + name.size) < 0 ∨ prevOk prev name = false then none
    else match v.fit d (r - (1 + name.size)) with
    | some r1 => q.fit d (some name) r1
    | none => none
end

/-- a value without parts, of its letter -/
def Simple (k n : Int) (f : Nat) (s : Int) : Prop :=
  (k = 116 ∧ (n = 0 ∨ n = 1)) ∨ (k = 98 ∧ -128 ≤ n ∧ n ≤ 127) ∨ (k = 66 ∧ 0 ≤ n ∧ n ≤ 255) ∨ (k = 115 ∧ -32768 ≤ n ∧ n ≤ 32767) ∨ (k = 73 ∧ -2147483648 ≤ n ∧ n ≤ 2147483647) ∨
  k = 108 ∨ (k = 84 ∧ 0 ≤ n ∧ n < 1099511627776) ∨ (k = 102 ∧ okF f) ∨ (k = 100 ∧ frange f = true) ∨ (k = 68 ∧ (0 ≤ s ∧ s ≤ 255) ∧ -2147483648 ≤ n ∧ n ≤ 2147483647) ∨
  k = 83 ∨ k = 120 ∨ k = 86

mutual
/-- a value of its letter, its parts that the letter does not name left aside -/
def V.good : V → Prop
  | .mk k n f s t ks fs => t.size ≤ 2000 ∧ (Simple k n f s ∨ (k = 65 ∧ ks.good ∧ ks.enc.length ≤ 20000) ∨ (k = 70 ∧ fs.good none ∧ fs.enc.length ≤ 20000))
def Vs.good : Vs → Prop
  | .nil => True
  | .cons v q => v.good ∧ q.good
def Fs.good : Fs → Option ByteArray → Prop
  | .nil, _ => True
  | .cons name v q, prev => name.size ≤ 255 ∧ prevOk prev name = true ∧ v.good ∧ q.good (some name)
end

theorem V.fit_inv {k n : Int} {f : Nat} {s : Int} {t : ByteArray} {ks : Vs} {fs : Fs} {d : Nat} {r r' : Int} (h : (V.mk k n f s t ks fs).fit d r = some r') :
    0 ≤ r - (1 + t.size) ∧ ((r' = r - (1 + t.size) ∧ Simple k n f s) ∨ (k = 65 ∧ ks.fit (d - 1) (r - (1 + t.size)) = some r') ∨ (k = 70 ∧ fs.fit (d - 1) none (r - (1 + t.size)) = some r')) := by
  rw [V.fit] at h
  by_cases h0 : r - (1 + (t.size : Int)) < 0 ∨ d = 0
  · rw [if_pos h0] at h; cases h
  rw [if_neg h0] at h
  refine ⟨by omega, ?_⟩
  by_cases hib : inBits k n = false
  · rw [if_pos hib] at h; cases h
  rw [if_neg hib] at h
  by_cases h1 : k = 116
  · rw [if_pos h1] at h
    by_cases hn : n = 0 ∨ n = 1
    · rw [if_pos hn] at h; injection h with h; exact .inl ⟨h.symm, .inl ⟨h1, hn⟩⟩
    · rw [if_neg hn] at h; cases h
  rw [if_neg h1] at h
  by_cases h2 : k = 66
  · rw [if_pos h2] at h
    by_cases hn : 0 ≤ n ∧ n ≤ 255
    · rw [if_pos hn] at h; injection h with h; exact .inl ⟨h.symm, .inr (.inr (.inl ⟨h2, hn⟩))⟩
    · rw [if_neg hn] at h; cases h
  rw [if_neg h2] at h
  by_cases h3 : k = 84
  · rw [if_pos h3] at h
    by_cases hn : 0 ≤ n ∧ n < 1099511627776
    · rw [if_pos hn] at h; injection h with h; exact .inl ⟨h.symm, .inr (.inr (.inr (.inr (.inr (.inr (.inl ⟨h3, hn⟩))))))⟩
    · rw [if_neg hn] at h; cases h
  rw [if_neg h3] at h
  by_cases h4 : k = 102 ∨ k = 100
  · rw [if_pos h4] at h
    by_cases hn : frange f = true
    · rw [if_pos hn] at h; injection h with h
      refine .inl ⟨h.symm, ?_⟩
      unfold Simple
      rcases h4 with h4 | h4
      · exact .inr (.inr (.inr (.inr (.inr (.inr (.inr (.inl ⟨h4, okF_frange hn⟩)))))))
      · exact .inr (.inr (.inr (.inr (.inr (.inr (.inr (.inr (.inl ⟨h4, hn⟩))))))))
    · rw [if_neg hn] at h; cases h
  rw [if_neg h4] at h
  by_cases h5 : k = 68
  · rw [if_pos h5] at h
    by_cases hn : 0 ≤ s ∧ s ≤ 255
    · rw [if_pos hn] at h; injection h with h
      refine .inl ⟨h.symm, ?_⟩
      have hb : -2147483648 ≤ n ∧ n ≤ 2147483647 := by
        subst h5
        simp [inBits, bounds] at hib
        omega
      exact .inr (.inr (.inr (.inr (.inr (.inr (.inr (.inr (.inr (.inl ⟨h5, hn, hb⟩)))))))))
    · rw [if_neg hn] at h; cases h
  rw [if_neg h5] at h
  by_cases h6 : k = 65
  · rw [if_pos h6] at h; exact .inr (.inl ⟨h6, h⟩)
  rw [if_neg h6] at h
  by_cases h7 : k = 70
  · rw [if_pos h7] at h; exact .inr (.inr ⟨h7, h⟩)
  rw [if_neg h7] at h
  by_cases h8 : k = 98 ∨ k = 115 ∨ k = 73 ∨ k = 108 ∨ k = 83 ∨ k = 120 ∨ k = 86
  · rw [if_pos h8] at h; injection h with h
    refine .inl ⟨h.symm, ?_⟩
    unfold Simple
    rcases h8 with rfl | rfl | rfl | rfl | rfl | rfl | rfl
    · have : -128 ≤ n ∧ n ≤ 127 := by simp [inBits, bounds] at hib; omega
      exact .inr (.inl ⟨rfl, this⟩)
    · have : -32768 ≤ n ∧ n ≤ 32767 := by simp [inBits, bounds] at hib; omega
      exact .inr (.inr (.inr (.inl ⟨rfl, this⟩)))
    · have : -2147483648 ≤ n ∧ n ≤ 2147483647 := by simp [inBits, bounds] at hib; omega
      exact .inr (.inr (.inr (.inr (.inl ⟨rfl, this⟩))))
    · exact .inr (.inr (.inr (.inr (.inr (.inl rfl)))))
    · simp
    · simp
    · simp
  · rw [if_neg h8] at h; cases h

theorem V.enc_simple {k n : Int} {f : Nat} {s : Int} (h : Simple k n f s) (t : ByteArray) (ks ks' : Vs) (fs fs' : Fs) :
    (V.mk k n f s t ks fs).enc = (V.mk k n f s t ks' fs').enc ∧ (V.mk k n f s t ks fs).enc.length ≤ 9 + t.size := by
  have e : t.data.toList.length = t.size := by rw [Array.length_toList]; rfl
  unfold Simple at h
  rcases h with ⟨rfl, _⟩ | ⟨rfl, _⟩ | ⟨rfl, _⟩ | ⟨rfl, _⟩ | ⟨rfl, _⟩ | rfl | ⟨rfl, _⟩ | ⟨rfl, _⟩ | ⟨rfl, _⟩ | ⟨rfl, _⟩ | rfl | rfl | rfl <;>
    refine ⟨by simp [V.enc], ?_⟩ <;> simp [V.enc, be_len] <;> first | omega | (show 4 + t.size + 1 ≤ 9 + t.size; omega)
theorem zeroV_fit (d : Nat) (r : Int) : zeroV.fit d r = none := by
  cases h : zeroV.fit d r with
  | none => rfl
  | some x =>
    have := (V.fit_inv h).2
    simp [Simple] at this

mutual
theorem V.cut_fit : ∀ (v : V) (d d2 : Nat) (r ρ ρ' : Int), ρ ≤ 2000 → (v.cut d r).1.fit d2 ρ = some ρ' → v.good ∧ v.enc = (v.cut d r).1.enc ∧ (v.enc.length : Int) ≤ 10 * (ρ - ρ') ∧ 0 ≤ ρ'
  | .mk k n f s t ks fs, d, d2, r, ρ, ρ', hρ, h => by
    have hV := Vs.cut_fit ks
    have hF := Fs.cut_fit fs
    rw [V.cut] at h ⊢
    by_cases hc : r - (1 + (t.size : Int)) < 0 ∨ d = 0
    · rw [if_pos hc] at h; rw [zeroV_fit] at h; cases h
    rw [if_neg hc] at h ⊢
    generalize hfs : fs.cutO (d - 1) (r - (1 + t.size)) = cf at h ⊢
    obtain ⟨fs', r2⟩ := cf
    simp only at h ⊢
    generalize hks : ks.cut (d - 1) r2 = ck at h ⊢
    obtain ⟨ks', r3⟩ := ck
    cases ks' with
    | none => simp only at h; rw [zeroV_fit] at h; cases h
    | some ks' =>
      simp only at h ⊢
      obtain ⟨h0, h1⟩ := V.fit_inv h
      have ht : t.size ≤ 2000 := by omega
      rcases h1 with ⟨rfl, hs⟩ | ⟨rfl, hk⟩ | ⟨rfl, hf⟩
      · have := V.enc_simple hs t ks ks' fs (fs'.getD oneF)
        exact ⟨⟨ht, .inl hs⟩, this.1, by omega, h0⟩
      · obtain ⟨g1, g2, g3, g4⟩ := hV _ (d2 - 1) _ _ ρ' ks' (by rw [hks]) (by omega) hk
        refine ⟨⟨ht, .inr (.inl ⟨rfl, g1, by omega⟩)⟩, by simp [V.enc, g2], ?_, g4 h0⟩
        simp [V.enc, be_len]; omega
      · cases fs' with
        | none =>
          simp only [Option.getD_none] at hf
          rw [Fs.fit] at hf
          split at hf
          · cases hf
          · rw [zeroV_fit] at hf; cases hf
        | some fs' =>
          simp only [Option.getD_some] at hf ⊢
          obtain ⟨g1, g2, g3, g4⟩ := hF _ (d2 - 1) none _ _ ρ' fs' (by rw [hfs]) (by omega) hf
          refine ⟨⟨ht, .inr (.inr ⟨rfl, g1, by omega⟩)⟩, by simp [V.enc, g2], ?_, g4 h0⟩
          simp [V.enc, be_len]; omega
theorem Vs.cut_fit : ∀ (ks : Vs) (d d2 : Nat) (r ρ ρ' : Int) (ks' : Vs), (ks.cut d r).1 = some ks' → ρ ≤ 2000 → ks'.fit d2 ρ = some ρ' → ks.good ∧ ks.enc = ks'.enc ∧ (ks.enc.length : Int) ≤ 10 * (ρ - ρ') ∧ (0 ≤ ρ → 0 ≤ ρ')
  | .nil, d, d2, r, ρ, ρ', ks', hc, hρ, h => by
    simp only [Vs.cut, Option.some.injEq] at hc
    subst hc
    simp only [Vs.fit, Option.some.injEq] at h
    subst h
    exact ⟨trivial, rfl, by simp [Vs.enc], fun h => h⟩
  | .cons v q, d, d2, r, ρ, ρ', ks', hc, hρ, h => by
    have hV := V.cut_fit v
    have hQ := Vs.cut_fit q
    rw [Vs.cut] at hc
    by_cases hr : r < 0
    · rw [if_pos hr] at hc; cases hc
    rw [if_neg hr] at hc
    generalize hv : v.cut d r = cv at hc
    obtain ⟨v', r1⟩ := cv
    simp only at hc
    generalize hq : q.cut d r1 = cq at hc
    obtain ⟨q', r2⟩ := cq
    cases q' with
    | none => simp at hc
    | some q' =>
      simp only [Option.some.injEq] at hc
      subst hc
      rw [Vs.fit] at h
      cases hvf : v'.fit d2 ρ with
      | none => rw [hvf] at h; cases h
      | some ρ1 =>
        rw [hvf] at h
        simp only at h
        obtain ⟨a1, a2, a3, a4⟩ := hV d d2 r ρ ρ1 hρ (by rw [hv]; exact hvf)
        rw [hv] at a2
        simp only at a2
        obtain ⟨b1, b2, b3, b4⟩ := hQ d d2 r1 ρ1 ρ' q' (by rw [hq]) (by omega) h
        refine ⟨⟨a1, b1⟩, by simp [Vs.enc, a2, b2], ?_, fun _ => b4 a4⟩
        simp only [Vs.enc, List.length_append]
        omega
theorem Fs.cut_fit : ∀ (fs : Fs) (d d2 : Nat) (prev : Option ByteArray) (r ρ ρ' : Int) (fs' : Fs), (fs.cutO d r).1 = some fs' → ρ ≤ 2000 → fs'.fit d2 prev ρ = some ρ' → fs.good prev ∧ fs.enc = fs'.enc ∧ (fs.enc.length : Int) ≤ 10 * (ρ - ρ') ∧ (0 ≤ ρ → 0 ≤ ρ')
  | .nil, d, d2, prev, r, ρ, ρ', fs', hc, hρ, h => by
    simp only [Fs.cutO, Option.some.injEq] at hc
    subst hc
    simp only [Fs.fit, Option.some.injEq] at h
    subst h
    exact ⟨trivial, rfl, by simp [Fs.enc], fun h => h⟩
  | .cons name v q, d, d2, prev, r, ρ, ρ', fs', hc, hρ, h => by
    have hV := V.cut_fit v
    have hQ := Fs.cut_fit q
    rw [Fs.cutO] at hc
    generalize hv : v.cut d (r - name.size) = cv at hc
    obtain ⟨v', r1⟩ := cv
    simp only at hc
    by_cases hr : r1 < 0
    · rw [if_pos hr] at hc; cases hc
    rw [if_neg hr] at hc
    generalize hq : q.cutO d r1 = cq at hc
    obtain ⟨q', r2⟩ := cq
    cases q' with
    | none => simp at hc
    | some q' =>
      simp only [Option.some.injEq] at hc
      subst hc
      rw [Fs.fit] at h
      by_cases hcond : name.size > 255 ∨ ρ - (1 + (name.size : Int)) < 0 ∨ prevOk prev name = false
      · rw [if_pos hcond] at h; cases h
      rw [if_neg hcond] at h
      cases hvf : v'.fit d2 (ρ - (1 + name.size)) with
      | none => rw [hvf] at h; cases h
      | some ρ1 =>
        rw [hvf] at h
        simp only at h
        have hsz : name.size ≤ 255 := by omega
        have hprev : prevOk prev name = true := by
          cases hp : prevOk prev name with
          | true => rfl
          | false => exact absurd (.inr (.inr hp)) hcond
        obtain ⟨a1, a2, a3, a4⟩ := hV d d2 _ (ρ - (1 + name.size)) ρ1 (by omega) (by rw [hv]; exact hvf)
        rw [hv] at a2
        simp only at a2
        obtain ⟨b1, b2, b3, b4⟩ := hQ d d2 (some name) r1 ρ1 ρ' q' (by rw [hq]) (by omega) h
        refine ⟨⟨hsz, hprev, a1, b1⟩, by simp [Fs.enc, a2, b2], ?_, fun _ => b4 a4⟩
        have e : name.data.toList.length = name.size := by rw [Array.length_toList]; rfl
        simp only [Fs.enc, List.length_append, List.length_cons]
        omega
end

end Go.Proofs.YtabeppaehenefaaGreat

namespace Go.Proofs.YtabeppaehenefaaGreat
set_option linter.unusedVariables false

mutual
theorem V.fit_good : ∀ (v : V) (d : Nat) (ρ ρ' : Int), ρ ≤ 2000 → v.fit d ρ = some ρ' → v.good ∧ (v.enc.length : Int) ≤ 10 * (ρ - ρ') ∧ 0 ≤ ρ'
  | .mk k n f s t ks fs, d, ρ, ρ', hρ, h => by
    have hV := Vs.fit_good ks
    have hF := Fs.fit_good fs
    obtain ⟨h0, h1⟩ := V.fit_inv h
    have ht : t.size ≤ 2000 := by omega
    rcases h1 with ⟨rfl, hs⟩ | ⟨rfl, hk⟩ | ⟨rfl, hf⟩
    · have := V.enc_simple hs t ks ks fs fs
      exact ⟨⟨ht, .inl hs⟩, by omega, h0⟩
    · obtain ⟨g1, g3, g4⟩ := hV (d - 1) _ ρ' (by omega) hk
      refine ⟨⟨ht, .inr (.inl ⟨rfl, g1, by omega⟩)⟩, ?_, g4 h0⟩
      simp [V.enc, be_len]; omega
    · obtain ⟨g1, g3, g4⟩ := hF (d - 1) none _ ρ' (by omega) hf
      refine ⟨⟨ht, .inr (.inr ⟨rfl, g1, by omega⟩)⟩, ?_, g4 h0⟩
      simp [V.enc, be_len]; omega
theorem Vs.fit_good : ∀ (ks : Vs) (d : Nat) (ρ ρ' : Int), ρ ≤ 2000 → ks.fit d ρ = some ρ' → ks.good ∧ (ks.enc.length : Int) ≤ 10 * (ρ - ρ') ∧ (0 ≤ ρ → 0 ≤ ρ')
  | .nil, d, ρ, ρ', hρ, h => by
    simp only [Vs.fit, Option.some.injEq] at h
    subst h
    exact ⟨trivial, by simp [Vs.enc], fun h => h⟩
  | .cons v q, d, ρ, ρ', hρ, h => by
    have hV := V.fit_good v
    have hQ := Vs.fit_good q
    rw [Vs.fit] at h
    cases hvf : v.fit d ρ with
    | none => rw [hvf] at h; cases h
    | some ρ1 =>
      rw [hvf] at h
      simp only at h
      obtain ⟨a1, a3, a4⟩ := hV d ρ ρ1 hρ hvf
      obtain ⟨b1, b3, b4⟩ := hQ d ρ1 ρ' (by omega) h
      refine ⟨⟨a1, b1⟩, ?_, fun _ => b4 a4⟩
      simp only [Vs.enc, List.length_append]
      omega
theorem Fs.fit_good : ∀ (fs : Fs) (d : Nat) (prev : Option ByteArray) (ρ ρ' : Int), ρ ≤ 2000 → fs.fit d prev ρ = some ρ' → fs.good prev ∧ (fs.enc.length : Int) ≤ 10 * (ρ - ρ') ∧ (0 ≤ ρ → 0 ≤ ρ')
  | .nil, d, prev, ρ, ρ', hρ, h => by
    simp only [Fs.fit, Option.some.injEq] at h
    subst h
    exact ⟨trivial, by simp [Fs.enc], fun h => h⟩
  | .cons name v q, d, prev, ρ, ρ', hρ, h => by
    have hV := V.fit_good v
    have hQ := Fs.fit_good q
    rw [Fs.fit] at h
    by_cases hcond : name.size > 255 ∨ ρ - (1 + (name.size : Int)) < 0 ∨ prevOk prev name = false
    · rw [if_pos hcond] at h; cases h
    rw [if_neg hcond] at h
    cases hvf : v.fit d (ρ - (1 + name.size)) with
    | none => rw [hvf] at h; cases h
    | some ρ1 =>
      rw [hvf] at h
      simp only at h
      have hsz : name.size ≤ 255 := by omega
      have hprev : prevOk prev name = true := by
        cases hp : prevOk prev name with
        | true => rfl
        | false => exact absurd (.inr (.inr hp)) hcond
      obtain ⟨a1, a3, a4⟩ := hV d (ρ - (1 + name.size)) ρ1 (by omega) hvf
      obtain ⟨b1, b3, b4⟩ := hQ d (some name) ρ1 ρ' (by omega) h
      refine ⟨⟨hsz, hprev, a1, b1⟩, ?_, fun _ => b4 a4⟩
      have e : name.data.toList.length = name.size := by rw [Array.length_toList]; rfl
      simp only [Fs.enc, List.length_append, List.length_cons]
      omega
end

end Go.Proofs.YtabeppaehenefaaGreat
