/-
  FnTableRead: what is told of a value that was read: the parts that its letter names; its bytes are those of the value.
-/
import Derived.Test.YtkcdakohmfodjaaF1
import Derived.Test.YtkcdakohmfodjaaRead
namespace Go.Proofs.Ytkcdakohmfodjaa
open Ieee

/-! ### the float64 of a float32 -/
/-- the float64 of the float32 of f -/
def back32 (f : Nat) : Nat := Go.FloatKind.f64.encode (Go.FloatKind.f32.decode (f32 f))

theorem word32 (s : Bool) (r : Nat) (hr : r ≤ 2139095040) : single.word s r < 4294967296 ∧ single.word s r % 2147483648 = r := by
  have e3 : single.signWeight = 2147483648 := by decide
  unfold Format.word
  rw [e3]
  cases s
  · simp only [Bool.false_eq_true, if_false]; omega
  · simp only [if_true]; omega
theorem near32 (s : Bool) (m : Nat) (e : Int) : ∃ r, r ≤ 2139095040 ∧ single.nearest s m e = single.word s r := by
  have e2 : single.infRung = 2139095040 := by decide
  unfold Format.nearest
  by_cases h : m = 0
  · rw [if_pos h]; exact ⟨0, by omega, rfl⟩
  · rw [if_neg h]; exact ⟨_, by rw [e2]; exact Nat.min_le_right _ _, rfl⟩
theorem word64 (s : Bool) (r : Nat) (hr : r ≤ 9218868437227405312) : double.word s r < 18446744073709551616 := by
  have e3 : double.signWeight = 9223372036854775808 := by decide
  unfold Format.word
  rw [e3]
  cases s
  · simp only [Bool.false_eq_true, if_false]; omega
  · simp only [if_true]; omega
theorem near64 (s : Bool) (m : Nat) (e : Int) : double.nearest s m e < 18446744073709551616 := by
  have e2 : double.infRung = 9218868437227405312 := by decide
  unfold Format.nearest
  by_cases h : m = 0
  · rw [if_pos h]; exact word64 _ _ (by omega)
  · rw [if_neg h]; exact word64 _ _ (by rw [e2]; exact Nat.min_le_right _ _)

theorem f32_number {f : Nat} (h : okF f) : f32 f < 4294967296 ∧ ∃ s m e, Go.FloatKind.f32.decode (f32 f) = .number s m e := by
  obtain ⟨s, m, e, h1, h2⟩ := h
  have hf : f32 f = single.nearest s m e := by unfold f32; rw [h1]; rfl
  have h3 : (single.read (f32 f)).isInfinity = false := by rw [hf]; exact h2
  obtain ⟨r, hr, hw⟩ := near32 s m e
  obtain ⟨w1, w2⟩ := word32 s r hr
  rw [hw] at hf
  refine ⟨by rw [hf]; exact w1, ?_⟩
  show ∃ s m e, single.read (f32 f) = .number s m e
  rw [sread] at h3 ⊢
  rw [hf, w2] at h3 ⊢
  simp only at h3 ⊢
  by_cases c1 : r < 8388608
  · rw [if_pos c1]; exact ⟨_, _, _, rfl⟩
  rw [if_neg c1] at h3 ⊢
  by_cases c2 : r < 2139095040
  · rw [if_pos c2]; exact ⟨_, _, _, rfl⟩
  rw [if_neg c2, if_pos (by omega)] at h3
  cases h3

theorem back_all {f : Nat} (h : okF f) : (∃ s m e, Go.FloatKind.f32.decode (f32 f) = .number s m e ∧ back32 f = Go.FloatKind.f64.encode (.number s m e) ∧ (Go.FloatKind.f64.decode (back32 f)).isInfinity = false) ∧ okF (back32 f) ∧ f32 (back32 f) = f32 f ∧ back32 f < 18446744073709551616 := by
  obtain ⟨hb, s, m, e, hd⟩ := f32_number h
  obtain ⟨m', e', r1, r2⟩ := round32 (b := f32 f) hd hb
  have hk : back32 f = double.nearest s m e := by unfold back32; rw [hd]; rfl
  have hdec : Go.FloatKind.f64.decode (back32 f) = .number s m' e' := by rw [hk]; exact r1
  have henc : Go.FloatKind.f32.encode (.number s m' e') = f32 f := r2
  refine ⟨⟨s, m, e, hd, hk, by rw [hdec]; rfl⟩, ⟨s, m', e', hdec, by rw [henc, hd]; rfl⟩, ?_, by rw [hk]; exact near64 _ _ _⟩
  show Go.FloatKind.f32.encode (Go.FloatKind.f64.decode (back32 f)) = f32 f
  rw [hdec, henc]

/-! ### the parts that the letter names -/
mutual
def V.nrm : V → V
  | .mk k n f s t ks fs =>
    if k = 116 ∨ k = 98 ∨ k = 66 ∨ k = 115 ∨ k = 73 ∨ k = 108 ∨ k = 84 then .mk k n 0 0 ⟨#[]⟩ .nil .nil
    else if k = 102 then .mk k 0 (back32 f) 0 ⟨#[]⟩ .nil .nil
    else if k = 100 then .mk k 0 f 0 ⟨#[]⟩ .nil .nil
    else if k = 68 then .mk k n 0 s ⟨#[]⟩ .nil .nil
    else if k = 83 ∨ k = 120 then .mk k 0 0 0 t .nil .nil
    else if k = 65 then .mk k 0 0 0 ⟨#[]⟩ ks.nrm .nil
    else if k = 70 then .mk k 0 0 0 ⟨#[]⟩ .nil fs.nrm
    else .mk k 0 0 0 ⟨#[]⟩ .nil .nil
def Vs.nrm : Vs → Vs
  | .nil => .nil
  | .cons v r => .cons v.nrm r.nrm
def Fs.nrm : Fs → Fs
  | .nil => .nil
  | .cons name v r => .cons name v.nrm r.nrm
end

theorem Vs.len_nrm : ∀ ks : Vs, ks.nrm.len = ks.len
  | .nil => rfl
  | .cons v r => by rw [Vs.nrm, Vs.len, Vs.len, Vs.len_nrm r]
theorem Fs.len_nrm : ∀ fs : Fs, fs.nrm.len = fs.len
  | .nil => rfl
  | .cons n v r => by rw [Fs.nrm, Fs.len, Fs.len, Fs.len_nrm r]

theorem be_u64_nil : (⟨#[]⟩ : ByteArray).size = 0 := rfl

mutual
theorem V.nrm_good : ∀ v : V, v.good → v.ok → v.nrm.good ∧ v.nrm.enc = v.enc ∧ v.nrm.ok
  | .mk k n f s t ks fs, hg, ho => by
    have hV := Vs.nrm_good ks
    have hF := Fs.nrm_good fs none
    have hkl := Vs.len_nrm ks
    have hfl := Fs.len_nrm fs
    rw [V.good] at hg
    rw [V.ok] at ho
    obtain ⟨o1, o2, o3, o4, o5, o6, o7, o8, o9⟩ := ho
    obtain ⟨g1, g2⟩ := hg
    have z : V.ok (.mk k n 0 0 ⟨#[]⟩ .nil .nil) := by rw [V.ok]; exact ⟨o1, o2, by omega, by omega, by rw [be_u64_nil]; omega, by rw [Vs.ok]; trivial, by rw [Fs.ok]; trivial, by rw [Vs.len]; omega, by rw [Fs.len]; omega⟩
    rw [V.nrm]
    rcases g2 with hs | ⟨rfl, k1, k2⟩ | ⟨rfl, f1, f2⟩
    · have hb : k = 102 → okF f := by
        intro hk
        subst hk
        simpa [Simple] using hs
      by_cases c1 : k = 116 ∨ k = 98 ∨ k = 66 ∨ k = 115 ∨ k = 73 ∨ k = 108 ∨ k = 84
      · rw [if_pos c1]
        refine ⟨?_, ?_, z⟩
        · rw [V.good]
          refine ⟨by rw [be_u64_nil]; omega, .inl ?_⟩
          rcases c1 with rfl | rfl | rfl | rfl | rfl | rfl | rfl <;> (revert hs; simp [Simple])
        · rcases c1 with rfl | rfl | rfl | rfl | rfl | rfl | rfl <;> simp [V.enc]
      rw [if_neg c1]
      by_cases c2 : k = 102
      · rw [if_pos c2]
        obtain ⟨_, q1, q2, q3⟩ := back_all (hb c2)
        subst c2
        refine ⟨?_, by simp [V.enc, q2], ?_⟩
        · rw [V.good]; exact ⟨by rw [be_u64_nil]; omega, .inl (by simpa [Simple] using q1)⟩
        · rw [V.ok]; exact ⟨o1, by omega, q3, by omega, by rw [be_u64_nil]; omega, by rw [Vs.ok]; trivial, by rw [Fs.ok]; trivial, by rw [Vs.len]; omega, by rw [Fs.len]; omega⟩
      rw [if_neg c2]
      by_cases c3 : k = 100
      · rw [if_pos c3]
        subst c3
        refine ⟨?_, by simp [V.enc], ?_⟩
        · rw [V.good]; exact ⟨by rw [be_u64_nil]; omega, .inl (by simpa [Simple] using hs)⟩
        · rw [V.ok]; exact ⟨o1, by omega, o3, by omega, by rw [be_u64_nil]; omega, by rw [Vs.ok]; trivial, by rw [Fs.ok]; trivial, by rw [Vs.len]; omega, by rw [Fs.len]; omega⟩
      rw [if_neg c3]
      by_cases c4 : k = 68
      · rw [if_pos c4]
        subst c4
        refine ⟨?_, by simp [V.enc], ?_⟩
        · rw [V.good]; exact ⟨by rw [be_u64_nil]; omega, .inl (by simpa [Simple] using hs)⟩
        · rw [V.ok]; exact ⟨o1, o2, by omega, o4, by rw [be_u64_nil]; omega, by rw [Vs.ok]; trivial, by rw [Fs.ok]; trivial, by rw [Vs.len]; omega, by rw [Fs.len]; omega⟩
      rw [if_neg c4]
      by_cases c5 : k = 83 ∨ k = 120
      · rw [if_pos c5]
        refine ⟨?_, ?_, ?_⟩
        · rw [V.good]; exact ⟨g1, .inl (by rcases c5 with rfl | rfl <;> simp [Simple])⟩
        · rcases c5 with rfl | rfl <;> simp [V.enc]
        · rw [V.ok]; exact ⟨o1, by omega, by omega, by omega, o5, by rw [Vs.ok]; trivial, by rw [Fs.ok]; trivial, by rw [Vs.len]; omega, by rw [Fs.len]; omega⟩
      rw [if_neg c5]
      have c8 : k = 86 := by unfold Simple at hs; omega
      subst c8
      simp only [show ¬ ((86 : Int) = 65) by decide, show ¬ ((86 : Int) = 70) by decide, if_false]
      refine ⟨?_, by simp [V.enc], ?_⟩
      · rw [V.good]; exact ⟨by rw [be_u64_nil]; omega, .inl (by simp [Simple])⟩
      · rw [V.ok]; exact ⟨o1, by omega, by omega, by omega, by rw [be_u64_nil]; omega, by rw [Vs.ok]; trivial, by rw [Fs.ok]; trivial, by rw [Vs.len]; omega, by rw [Fs.len]; omega⟩
    · obtain ⟨q1, q2, q3⟩ := hV k1 o6
      simp only [show ¬ ((65 : Int) = 116 ∨ (65 : Int) = 98 ∨ (65 : Int) = 66 ∨ (65 : Int) = 115 ∨ (65 : Int) = 73 ∨ (65 : Int) = 108 ∨ (65 : Int) = 84) by decide, show ¬ ((65 : Int) = 102) by decide, show ¬ ((65 : Int) = 100) by decide, show ¬ ((65 : Int) = 68) by decide, show ¬ ((65 : Int) = 83 ∨ (65 : Int) = 120) by decide, if_false, if_true]
      refine ⟨?_, by simp [V.enc, q2], ?_⟩
      · rw [V.good]; exact ⟨by rw [be_u64_nil]; omega, .inr (.inl ⟨rfl, q1, by rw [q2]; exact k2⟩)⟩
      · rw [V.ok]; exact ⟨o1, by omega, by omega, by omega, by rw [be_u64_nil]; omega, q3, by rw [Fs.ok]; trivial, by rw [hkl]; exact o8, by rw [Fs.len]; omega⟩
    · obtain ⟨q1, q2, q3⟩ := hF f1 o7
      simp only [show ¬ ((70 : Int) = 116 ∨ (70 : Int) = 98 ∨ (70 : Int) = 66 ∨ (70 : Int) = 115 ∨ (70 : Int) = 73 ∨ (70 : Int) = 108 ∨ (70 : Int) = 84) by decide, show ¬ ((70 : Int) = 102) by decide, show ¬ ((70 : Int) = 100) by decide, show ¬ ((70 : Int) = 68) by decide, show ¬ ((70 : Int) = 83 ∨ (70 : Int) = 120) by decide, show ¬ ((70 : Int) = 65) by decide, if_false, if_true]
      refine ⟨?_, by simp [V.enc, q2], ?_⟩
      · rw [V.good]; exact ⟨by rw [be_u64_nil]; omega, .inr (.inr ⟨rfl, q1, by rw [q2]; exact f2⟩)⟩
      · rw [V.ok]; exact ⟨o1, by omega, by omega, by omega, by rw [be_u64_nil]; omega, by rw [Vs.ok]; trivial, q3, by rw [Vs.len]; omega, by rw [hfl]; exact o9⟩
theorem Vs.nrm_good : ∀ ks : Vs, ks.good → ks.ok → ks.nrm.good ∧ ks.nrm.enc = ks.enc ∧ ks.nrm.ok
  | .nil, _, _ => by rw [Vs.nrm]; exact ⟨by rw [Vs.good]; trivial, rfl, by rw [Vs.ok]; trivial⟩
  | .cons v r, hg, ho => by
    have hV := V.nrm_good v
    have hR := Vs.nrm_good r
    rw [Vs.good] at hg
    rw [Vs.ok] at ho
    obtain ⟨a1, a2, a3⟩ := hV hg.1 ho.1
    obtain ⟨b1, b2, b3⟩ := hR hg.2 ho.2
    rw [Vs.nrm, Vs.good, Vs.enc, Vs.enc, Vs.ok, a2, b2]
    exact ⟨⟨a1, b1⟩, rfl, a3, b3⟩
theorem Fs.nrm_good : ∀ (fs : Fs) (prev : Option ByteArray), fs.good prev → fs.ok → fs.nrm.good prev ∧ fs.nrm.enc = fs.enc ∧ fs.nrm.ok
  | .nil, _, _, _ => by rw [Fs.nrm]; exact ⟨by rw [Fs.good]; trivial, rfl, by rw [Fs.ok]; trivial⟩
  | .cons name v r, prev, hg, ho => by
    have hV := V.nrm_good v
    have hR := Fs.nrm_good r (some name)
    rw [Fs.good] at hg
    rw [Fs.ok] at ho
    obtain ⟨a1, a2, a3⟩ := hV hg.2.2.1 ho.2.1
    obtain ⟨b1, b2, b3⟩ := hR hg.2.2.2 ho.2.2
    rw [Fs.nrm, Fs.good, Fs.enc, Fs.enc, Fs.ok, a2, b2]
    exact ⟨⟨hg.1, hg.2.1, a1, b1⟩, rfl, ho.1, a3, b3⟩
end

/-! ### what is told is not cut again -/
theorem nrm_leaf (k n : Int) (f : Nat) (s : Int) (t : ByteArray) (D : Nat) (R : Int) (hD : D ≠ 0) (hR : 0 ≤ R - (1 + t.size)) : (V.mk k n f s t .nil .nil).cut D R = (V.mk k n f s t .nil .nil, R - (1 + t.size)) := by
  rw [V.cut, if_neg (by omega)]
  simp [Fs.cutO, Vs.cut]

mutual
theorem V.nrm_cut : ∀ (v : V) (d D : Nat) (ρ ρ' R : Int), v.fit d ρ = some ρ' → d ≤ D → ρ ≤ R → ∃ R', v.nrm.cut D R = (v.nrm, R') ∧ ρ' ≤ R' ∧ 0 ≤ ρ'
  | .mk k n f s t ks fs, d, D, ρ, ρ', R, h, hd, hR => by
    have hV := Vs.nrm_cut ks
    have hF := Fs.nrm_cut fs
    have hd0 : d ≠ 0 := by
      rintro rfl
      rw [V.fit, if_pos (.inr rfl)] at h
      cases h
    obtain ⟨h0, h1⟩ := V.fit_inv h
    have he : (⟨#[]⟩ : ByteArray).size = 0 := rfl
    have leaf : ∀ (n : Int) (f : Nat) (s : Int), ρ' = ρ - (1 + t.size) → ∃ R', (V.mk k n f s ⟨#[]⟩ .nil .nil).cut D R = (V.mk k n f s ⟨#[]⟩ .nil .nil, R') ∧ ρ' ≤ R' ∧ 0 ≤ ρ' := fun n f s h =>
      ⟨_, nrm_leaf _ _ _ _ _ _ _ (by omega) (by rw [he]; omega), by rw [he]; omega, by omega⟩
    rw [V.nrm]
    rcases h1 with ⟨h1, hs⟩ | ⟨rfl, hk⟩ | ⟨rfl, hf⟩
    · by_cases c1 : k = 116 ∨ k = 98 ∨ k = 66 ∨ k = 115 ∨ k = 73 ∨ k = 108 ∨ k = 84
      · rw [if_pos c1]; exact leaf _ _ _ h1
      rw [if_neg c1]
      by_cases c2 : k = 102
      · rw [if_pos c2]; exact leaf _ _ _ h1
      rw [if_neg c2]
      by_cases c3 : k = 100
      · rw [if_pos c3]; exact leaf _ _ _ h1
      rw [if_neg c3]
      by_cases c4 : k = 68
      · rw [if_pos c4]; exact leaf _ _ _ h1
      rw [if_neg c4]
      by_cases c5 : k = 83 ∨ k = 120
      · rw [if_pos c5]
        exact ⟨_, nrm_leaf _ _ _ _ _ _ _ (by omega) (by omega), by omega, by omega⟩
      rw [if_neg c5]
      have c6 : k ≠ 65 := by rintro rfl; simp [Simple] at hs
      have c7 : k ≠ 70 := by rintro rfl; simp [Simple] at hs
      rw [if_neg c6, if_neg c7]
      exact leaf _ _ _ h1
    · obtain ⟨R', q1, q2, q3⟩ := hV (d - 1) (D - 1) _ ρ' (R - 1) hk (by omega) (by omega)
      simp only [show ¬ ((65 : Int) = 116 ∨ (65 : Int) = 98 ∨ (65 : Int) = 66 ∨ (65 : Int) = 115 ∨ (65 : Int) = 73 ∨ (65 : Int) = 108 ∨ (65 : Int) = 84) by decide, show ¬ ((65 : Int) = 102) by decide, show ¬ ((65 : Int) = 100) by decide, show ¬ ((65 : Int) = 68) by decide, show ¬ ((65 : Int) = 83 ∨ (65 : Int) = 120) by decide, if_false, if_true]
      refine ⟨R', ?_, q2, q3 h0⟩
      rw [V.cut, if_neg (by rw [he]; omega)]
      have e1 : R - (1 + (((⟨#[]⟩ : ByteArray).size : Nat) : Int)) = R - 1 := by rw [he]; omega
      rw [e1]
      simp only [Fs.cutO, q1, Option.getD_some]
    · obtain ⟨R', q1, q2, q3⟩ := hF (d - 1) (D - 1) none _ ρ' (R - 1) hf (by omega) (by omega)
      simp only [show ¬ ((70 : Int) = 116 ∨ (70 : Int) = 98 ∨ (70 : Int) = 66 ∨ (70 : Int) = 115 ∨ (70 : Int) = 73 ∨ (70 : Int) = 108 ∨ (70 : Int) = 84) by decide, show ¬ ((70 : Int) = 102) by decide, show ¬ ((70 : Int) = 100) by decide, show ¬ ((70 : Int) = 68) by decide, show ¬ ((70 : Int) = 83 ∨ (70 : Int) = 120) by decide, show ¬ ((70 : Int) = 65) by decide, if_false, if_true]
      refine ⟨R', ?_, q2, q3 h0⟩
      rw [V.cut, if_neg (by rw [he]; omega)]
      have e1 : R - (1 + (((⟨#[]⟩ : ByteArray).size : Nat) : Int)) = R - 1 := by rw [he]; omega
      rw [e1]
      simp only [Vs.cut, q1, Option.getD_some]
theorem Vs.nrm_cut : ∀ (ks : Vs) (d D : Nat) (ρ ρ' R : Int), ks.fit d ρ = some ρ' → d ≤ D → ρ ≤ R → ∃ R', ks.nrm.cut D R = (some ks.nrm, R') ∧ ρ' ≤ R' ∧ (0 ≤ ρ → 0 ≤ ρ')
  | .nil, d, D, ρ, ρ', R, h, hd, hR => by
    rw [Vs.fit, Option.some.injEq] at h
    subst h
    rw [Vs.nrm, Vs.cut]
    exact ⟨R, rfl, hR, fun h => h⟩
  | .cons v q, d, D, ρ, ρ', R, h, hd, hR => by
    have hV := V.nrm_cut v
    have hQ := Vs.nrm_cut q
    rw [Vs.fit] at h
    cases hvf : v.fit d ρ with
    | none => rw [hvf] at h; cases h
    | some ρ1 =>
      rw [hvf] at h
      simp only at h
      obtain ⟨R1, a1, a2, a3⟩ := hV d D ρ ρ1 R hvf hd hR
      obtain ⟨R2, b1, b2, b3⟩ := hQ d D ρ1 ρ' R1 h hd a2
      have h0 : 0 ≤ R := by
        obtain ⟨vk, vn, vf, vs, vt, vks, vfs⟩ := v
        have := (V.fit_inv hvf).1
        omega
      rw [Vs.nrm, Vs.cut, if_neg (by omega), a1]
      simp only [b1]
      exact ⟨R2, rfl, b2, fun _ => b3 a3⟩
theorem Fs.nrm_cut : ∀ (fs : Fs) (d D : Nat) (prev : Option ByteArray) (ρ ρ' R : Int), fs.fit d prev ρ = some ρ' → d ≤ D → ρ ≤ R → ∃ R', fs.nrm.cutO D R = (some fs.nrm, R') ∧ ρ' ≤ R' ∧ (0 ≤ ρ → 0 ≤ ρ')
  | .nil, d, D, prev, ρ, ρ', R, h, hd, hR => by
    rw [Fs.fit, Option.some.injEq] at h
    subst h
    rw [Fs.nrm, Fs.cutO]
    exact ⟨R, rfl, hR, fun h => h⟩
  | .cons name v q, d, D, prev, ρ, ρ', R, h, hd, hR => by
    have hV := V.nrm_cut v
    have hQ := Fs.nrm_cut q
    rw [Fs.fit] at h
    by_cases hcond : name.size > 255 ∨ ρ - (1 + (name.size : Int)) < 0 ∨ prevOk prev name = false
    · rw [if_pos hcond] at h; cases h
    rw [if_neg hcond] at h
    cases hvf : v.fit d (ρ - (1 + name.size)) with
    | none => rw [hvf] at h; cases h
    | some ρ1 =>
      rw [hvf] at h
      simp only at h
      obtain ⟨R1, a1, a2, a3⟩ := hV d D _ ρ1 (R - name.size) hvf hd (by omega)
      obtain ⟨R2, b1, b2, b3⟩ := hQ d D (some name) ρ1 ρ' R1 h hd a2
      rw [Fs.nrm, Fs.cutO, a1]
      simp only
      rw [if_neg (by omega), b1]
      exact ⟨R2, rfl, b2, fun _ => b3 a3⟩
end

/-- a table that fits, as it is told, is not cut -/
theorem Fs.told_cut {fs : Fs} {r' : Int} (h : fs.fit 6 none 2000 = some r') : fs.nrm.cut 10 200000 = fs.nrm := by
  obtain ⟨R', h1, _⟩ := Fs.nrm_cut fs 6 10 none 2000 r' 200000 h (by omega) (by omega)
  unfold Fs.cut
  rw [h1]
  rfl

end Go.Proofs.Ytkcdakohmfodjaa
