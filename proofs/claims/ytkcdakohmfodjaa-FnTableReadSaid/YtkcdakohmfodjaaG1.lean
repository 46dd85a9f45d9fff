/-
  What the statements' functions make of an input: cut, proper, good; and that a proper cut of an input says that the input is good and has the same bytes.
  What is proper is good, and short.
-/
import Derived.Test.YtkcdakohmfodjaaF0
import GoSem.Op.String
namespace Go.Proofs.Ytkcdakohmfodjaa
/-! ### what the statements' functions make of an input -/
mutual
def V.cut : V → Nat → Int → V × Int
  | .mk k n f s t ks fs, d, r =>
    if r - (1 + t.size) < 0 ∨ d = 0 then (zeroV, r - (1 + t.size)) else
    match fs.cutO (d - 1) (r - (1 + t.size)) with
    | (fs', r2) =>
      match ks.cut (d - 1) r2 with
      | (some ks', r3) => (.mk k n f s t ks' (fs'.getD (.cons ⟨#[]⟩ zeroV .nil)), r3)
      | (none, r3) => (zeroV, r3)
def Vs.cut : Vs → Nat → Int → Option Vs × Int
  | .nil, _, r => (some .nil, r)
  | .cons v q, d, r =>
    if r < 0 then (none, r) else
    match v.cut d r with
    | (v', r1) =>
      match q.cut d r1 with
      | (some q', r2) => (some (.cons v' q'), r2)
      | (none, r2) => (none, r2)
def Fs.cutO : Fs → Nat → Int → Option Fs × Int
  | .nil, _, r => (some .nil, r)
  | .cons name v q, d, r =>
    match v.cut d (r - name.size) with
    | (v', r1) =>
      if r1 < 0 then (none, r1) else
      match q.cutO d r1 with
      | (some q', r2) => (some (.cons name v' q'), r2)
      | (none, r2) => (none, r2)
end

abbrev oneF : Fs := .cons ⟨#[]⟩ zeroV .nil
def Fs.cut (fs : Fs) (d : Nat) (r : Int) : Fs := ((fs.cutO d r).1).getD oneF

/-! ### properness, with the room that is left -/
def bounds (k : Int) : Option Nat := if k = 98 then some 8 else if k = 115 then some 16 else if k = 73 ∨ k = 68 then some 32 else none
def inBits (k n : Int) : Bool := match bounds k with
  | some b => !(decide (n < -(2 ^ (b - 1) : Nat)) || decide (n > (2 ^ (b - 1) : Nat) - 1))
  | none => true



def nameLess (a b : ByteArray) : Bool := Go.Op.bytesLess a.toList b.toList

def prevOk : Option ByteArray → ByteArray → Bool
  | some p, name => nameLess p name
  | none, _ => true

mutual
/-- the room that is left behind a proper value -/
def V.fit : V → Nat → Int → Option Int
  | .mk k n f s t ks fs, d, r =>
    if r - (1 + t.size) < 0 ∨ d = 0 then none
    else if inBits k n = false then none
    else if k = 116 then (if n = 0 ∨ n = 1 then some (r - (1 + t.size)) else none)
    else if k = 66 then (if 0 ≤ n ∧ n ≤ 255 then some (r - (1 + t.size)) else none)
    else if k = 84 then (if 0 ≤ n ∧ n < 1099511627776 then some (r - (1 + t.size)) else none)
    else if k = 102 ∨ k = 100 then (if frange f = true then some (r - (1 + t.size)) else none)
    else if k = 68 then (if 0 ≤ s ∧ s ≤ 255 then some (r - (1 + t.size)) else none)
    else if k = 65 then ks.fit (d - 1) (r - (1 + t.size))
    else if k = 70 then fs.fit (d - 1) none (r - (1 + t.size))
    else if k = 98 ∨ k = 115 ∨ k = 73 ∨ k = 108 ∨ k = 83 ∨ k = 120 ∨ k = 86 then some (r - (1 + t.size))
    else none
def Vs.fit : Vs → Nat → Int → Option Int
  | .nil, _, r => some r
  | .cons v q, d, r => match v.fit d r with
    | some r1 => q.fit d r1
    | none => none
def Fs.fit : Fs → Nat → Option ByteArray → Int → Option Int
  | .nil, _, _, r => some r
  | .cons name v q, d, prev, r =>
    if name.size > 255 ∨ r - (1 + name.size) < 0 ∨ prevOk prev name = false then none
    else match v.fit d (r - (1 + name.size)) with
    | some r1 => q.fit d (some name) r1
    | none => none
end

/-- a value without parts, of its letter -/
def Simple (k n : Int) (f : Nat) (s : Int) : Prop :=
  (k = 116 ∧ (n = 0 ∨ n = 1)) ∨ (k = 98 ∧ -128 ≤ n ∧ n ≤ 127) ∨ (k = 66 ∧ 0 ≤ n ∧ n ≤ 255) ∨ (k = 115 ∧ -32768 ≤ n ∧ n ≤ 32767) ∨ (k = 73 ∧ -2147483648 ≤ n ∧ n ≤ 2147483647) ∨
  k = 108 ∨ (k = 84 ∧ 0 ≤ n ∧ n < 1099511627776) ∨ (k = 102 ∧ okF f) ∨ (k = 100 ∧ frange f = true) ∨ (k = 68 ∧ (0 ≤ s ∧ s ≤ 255) ∧ -2147483648 ≤ n ∧ n ≤ 2147483647) ∨
  k = 83 ∨ k = 120 ∨ k = 86

mutual
/-- a value of its letter, its parts that the letter does not name left aside -/
def V.good : V → Prop
  | .mk k n f s t ks fs => t.size ≤ 2000 ∧ (Simple k n f s ∨ (k = 65 ∧ ks.good ∧ ks.enc.length ≤ 20000) ∨ (k = 70 ∧ fs.good none ∧ fs.enc.length ≤ 20000))
def Vs.good : Vs → Prop
  | .nil => True
  | .cons v q => v.good ∧ q.good
def Fs.good : Fs → Option ByteArray → Prop
  | .nil, _ => True
  | .cons name v q, prev => name.size ≤ 255 ∧ prevOk prev name = true ∧ v.good ∧ q.good (some name)
end

theorem V.fit_inv {k n : Int} {f : Nat} {s : Int} {t : ByteArray} {ks : Vs} {fs : Fs} {d : Nat} {r r' : Int} (h : (V.mk k n f s t ks fs).fit d r = some r') :
    0 ≤ r - (1 + t.size) ∧ ((r' = r - (1 + t.size) ∧ Simple k n f s) ∨ (k = 65 ∧ ks.fit (d - 1) (r - (1 + t.size)) = some r') ∨ (k = 70 ∧ fs.fit (d - 1) none (r - (1 + t.size)) = some r')) := by
  rw [V.fit] at h
  by_cases h0 : r - (1 + (t.size : Int)) < 0 ∨ d = 0
  · rw [if_pos h0] at h; cases h
  rw [if_neg h0] at h
  refine ⟨by omega, ?_⟩
  by_cases hib : inBits k n = false
  · rw [if_pos hib] at h; cases h
  rw [if_neg hib] at h
  by_cases h1 : k = 116
  · rw [if_pos h1] at h
    by_cases hn : n = 0 ∨ n = 1
    · rw [if_pos hn] at h; injection h with h; exact .inl ⟨h.symm, .inl ⟨h1, hn⟩⟩
    · rw [if_neg hn] at h; cases h
  rw [if_neg h1] at h
  by_cases h2 : k = 66
  · rw [if_pos h2] at h
    by_cases hn : 0 ≤ n ∧ n ≤ 255
    · rw [if_pos hn] at h; injection h with h; exact .inl ⟨h.symm, .inr (.inr (.inl ⟨h2, hn⟩))⟩
    · rw [if_neg hn] at h; cases h
  rw [if_neg h2] at h
  by_cases h3 : k = 84
  · rw [if_pos h3] at h
    by_cases hn : 0 ≤ n ∧ n < 1099511627776
    · rw [if_pos hn] at h; injection h with h; exact .inl ⟨h.symm, .inr (.inr (.inr (.inr (.inr (.inr (.inl ⟨h3, hn⟩))))))⟩
    · rw [if_neg hn] at h; cases h
  rw [if_neg h3] at h
  by_cases h4 : k = 102 ∨ k = 100
  · rw [if_pos h4] at h
    by_cases hn : frange f = true
    · rw [if_pos hn] at h; injection h with h
      refine .inl ⟨h.symm, ?_⟩
      unfold Simple
      rcases h4 with h4 | h4
      · exact .inr (.inr (.inr (.inr (.inr (.inr (.inr (.inl ⟨h4, okF_frange hn⟩)))))))
      · exact .inr (.inr (.inr (.inr (.inr (.inr (.inr (.inr (.inl ⟨h4, hn⟩))))))))
    · rw [if_neg hn] at h; cases h
  rw [if_neg h4] at h
  by_cases h5 : k = 68
  · rw [if_pos h5] at h
    by_cases hn : 0 ≤ s ∧ s ≤ 255
    · rw [if_pos hn] at h; injection h with h
      refine .inl ⟨h.symm, ?_⟩
      have hb : -2147483648 ≤ n ∧ n ≤ 2147483647 := by
        subst h5
        simp [inBits, bounds] at hib
        omega
      exact .inr (.inr (.inr (.inr (.inr (.inr (.inr (.inr (.inr (.inl ⟨h5, hn, hb⟩)))))))))
    · rw [if_neg hn] at h; cases h
  rw [if_neg h5] at h
  by_cases h6 : k = 65
  · rw [if_pos h6] at h; exact .inr (.inl ⟨h6, h⟩)
  rw [if_neg h6] at h
  by_cases h7 : k = 70
  · rw [if_pos h7] at h; exact .inr (.inr ⟨h7, h⟩)
  rw [if_neg h7] at h
  by_cases h8 : k = 98 ∨ k = 115 ∨ k = 73 ∨ k = 108 ∨ k = 83 ∨ k = 120 ∨ k = 86
  · rw [if_pos h8] at h; injection h with h
    refine .inl ⟨h.symm, ?_⟩
    unfold Simple
    rcases h8 with rfl | rfl | rfl | rfl | rfl | rfl | rfl
    · have : -128 ≤ n ∧ n ≤ 127 := by simp [inBits, bounds] at hib; omega
      exact .inr (.inl ⟨rfl, this⟩)
    · have : -32768 ≤ n ∧ n ≤ 32767 := by simp [inBits, bounds] at hib; omega
      exact .inr (.inr (.inr (.inl ⟨rfl, this⟩)))
    · have : -2147483648 ≤ n ∧ n ≤ 2147483647 := by simp [inBits, bounds] at hib; omega
      exact .inr (.inr (.inr (.inr (.inl ⟨rfl, this⟩))))
    · exact .inr (.inr (.inr (.inr (.inr (.inl rfl)))))
    · simp
    · simp
    · simp
  · rw [if_neg h8] at h; cases h

theorem V.enc_simple {k n : Int} {f : Nat} {s : Int} (h : Simple k n f s) (t : ByteArray) (ks ks' : Vs) (fs fs' : Fs) :
    (V.mk k n f s t ks fs).enc = (V.mk k n f s t ks' fs').enc ∧ (V.mk k n f s t ks fs).enc.length ≤ 9 + t.size := by
  have e : t.data.toList.length = t.size := by rw [Array.length_toList]; rfl
  unfold Simple at h
  rcases h with ⟨rfl, _⟩ | ⟨rfl, _⟩ | ⟨rfl, _⟩ | ⟨rfl, _⟩ | ⟨rfl, _⟩ | rfl | ⟨rfl, _⟩ | ⟨rfl, _⟩ | ⟨rfl, _⟩ | ⟨rfl, _⟩ | rfl | rfl | rfl <;>
    refine ⟨by simp [V.enc], ?_⟩ <;> simp [V.enc, be_len] <;> first | omega | (show 4 + t.size + 1 ≤ 9 + t.size; omega)
theorem zeroV_fit (d : Nat) (r : Int) : zeroV.fit d r = none := by
  cases h : zeroV.fit d r with
  | none => rfl
  | some x =>
    have := (V.fit_inv h).2
    simp [Simple] at this

mutual
theorem V.cut_fit : ∀ (v : V) (d d2 : Nat) (r ρ ρ' : Int), ρ ≤ 2000 → (v.cut d r).1.fit d2 ρ = some ρ' → v.good ∧ v.enc = (v.cut d r).1.enc ∧ (v.enc.length : Int) ≤ 10 * (ρ - ρ') ∧ 0 ≤ ρ'
  | .mk k n f s t ks fs, d, d2, r, ρ, ρ', hρ, h => by
    have hV := Vs.cut_fit ks
    have hF := Fs.cut_fit fs
    rw [V.cut] at h ⊢
    by_cases hc : r - (1 + (t.size : Int)) < 0 ∨ d = 0
    · rw [if_pos hc] at h; rw [zeroV_fit] at h; cases h
    rw [if_neg hc] at h ⊢
    generalize hfs : fs.cutO (d - 1) (r - (1 + t.size)) = cf at h ⊢
    obtain ⟨fs', r2⟩ := cf
    simp only at h ⊢
    generalize hks : ks.cut (d - 1) r2 = ck at h ⊢
    obtain ⟨ks', r3⟩ := ck
    cases ks' with
    | none => simp only at h; rw [zeroV_fit] at h; cases h
    | some ks' =>
      simp only at h ⊢
      obtain ⟨h0, h1⟩ := V.fit_inv h
      have ht : t.size ≤ 2000 := by omega
      rcases h1 with ⟨rfl, hs⟩ | ⟨rfl, hk⟩ | ⟨rfl, hf⟩
      · have := V.enc_simple hs t ks ks' fs (fs'.getD oneF)
        exact ⟨⟨ht, .inl hs⟩, this.1, by omega, h0⟩
      · obtain ⟨g1, g2, g3, g4⟩ := hV _ (d2 - 1) _ _ ρ' ks' (by rw [hks]) (by omega) hk
        refine ⟨⟨ht, .inr (.inl ⟨rfl, g1, by omega⟩)⟩, by simp [V.enc, g2], ?_, g4 h0⟩
        simp [V.enc, be_len]; omega
      · cases fs' with
        | none =>
          simp only [Option.getD_none] at hf
          rw [Fs.fit] at hf
          split at hf
          · cases hf
          · rw [zeroV_fit] at hf; cases hf
        | some fs' =>
          simp only [Option.getD_some] at hf ⊢
          obtain ⟨g1, g2, g3, g4⟩ := hF _ (d2 - 1) none _ _ ρ' fs' (by rw [hfs]) (by omega) hf
          refine ⟨⟨ht, .inr (.inr ⟨rfl, g1, by omega⟩)⟩, by simp [V.enc, g2], ?_, g4 h0⟩
          simp [V.enc, be_len]; omega
theorem Vs.cut_fit : ∀ (ks : Vs) (d d2 : Nat) (r ρ ρ' : Int) (ks' : Vs), (ks.cut d r).1 = some ks' → ρ ≤ 2000 → ks'.fit d2 ρ = some ρ' → ks.good ∧ ks.enc = ks'.enc ∧ (ks.enc.length : Int) ≤ 10 * (ρ - ρ') ∧ (0 ≤ ρ → 0 ≤ ρ')
  | .nil, d, d2, r, ρ, ρ', ks', hc, hρ, h => by
    simp only [Vs.cut, Option.some.injEq] at hc
    subst hc
    simp only [Vs.fit, Option.some.injEq] at h
    subst h
    exact ⟨trivial, rfl, by simp [Vs.enc], fun h => h⟩
  | .cons v q, d, d2, r, ρ, ρ', ks', hc, hρ, h => by
    have hV := V.cut_fit v
    have hQ := Vs.cut_fit q
    rw [Vs.cut] at hc
    by_cases hr : r < 0
    · rw [if_pos hr] at hc; cases hc
    rw [if_neg hr] at hc
    generalize hv : v.cut d r = cv at hc
    obtain ⟨v', r1⟩ := cv
    simp only at hc
    generalize hq : q.cut d r1 = cq at hc
    obtain ⟨q', r2⟩ := cq
    cases q' with
    | none => simp at hc
    | some q' =>
      simp only [Option.some.injEq] at hc
      subst hc
      rw [Vs.fit] at h
      cases hvf : v'.fit d2 ρ with
      | none => rw [hvf] at h; cases h
      | some ρ1 =>
        rw [hvf] at h
        simp only at h
        obtain ⟨a1, a2, a3, a4⟩ := hV d d2 r ρ ρ1 hρ (by rw [hv]; exact hvf)
        rw [hv] at a2
        simp only at a2
        obtain ⟨b1, b2, b3, b4⟩ := hQ d d2 r1 ρ1 ρ' q' (by rw [hq]) (by omega) h
        refine ⟨⟨a1, b1⟩, by simp [Vs.enc, a2, b2], ?_, fun _ => b4 a4⟩
        simp only [Vs.enc, List.length_append]
        omega
theorem Fs.cut_fit : ∀ (fs : Fs) (d d2 : Nat) (prev : Option ByteArray) (r ρ ρ' : Int) (fs' : Fs), (fs.cutO d r).1 = some fs' → ρ ≤ 2000 → fs'.fit d2 prev ρ = some ρ' → fs.good prev ∧ fs.enc = fs'.enc ∧ (fs.enc.length : Int) ≤ 10 * (ρ - ρ') ∧ (0 ≤ ρ → 0 ≤ ρ')
  | .nil, d, d2, prev, r, ρ, ρ', fs', hc, hρ, h => by
    simp only [Fs.cutO, Option.some.injEq] at hc
    subst hc
    simp only [Fs.fit, Option.some.injEq] at h
    subst h
    exact ⟨trivial, rfl, by simp [Fs.enc], fun h => h⟩
  | .cons name v q, d, d2, prev, r, ρ, ρ', fs', hc, hρ, h => by
    have hV := V.cut_fit v
    have hQ := Fs.cut_fit q
    rw [Fs.cutO] at hc
    generalize hv : v.cut d (r - name.size) = cv at hc
    obtain ⟨v', r1⟩ := cv
    simp only at hc
    by_cases hr : r1 < 0
    · rw [if_pos hr] at hc; cases hc
    rw [if_neg hr] at hc
    generalize hq : q.cutO d r1 = cq at hc
    obtain ⟨q', r2⟩ := cq
    cases q' with
    | none => simp at hc
    | some q' =>
      simp only [Option.some.injEq] at hc
      subst hc
      rw [Fs.fit] at h
      by_cases hcond : name.size > 255 ∨ ρ - (1 + (name.size : Int)) < 0 ∨ prevOk prev name = false
      · rw [if_pos hcond] at h; cases h
      rw [if_neg hcond] at h
      cases hvf : v'.fit d2 (ρ - (1 + name.size)) with
      | none => rw [hvf] at h; cases h
      | some ρ1 =>
        rw [hvf] at h
        simp only at h
        have hsz : name.size ≤ 255 := by omega
        have hprev : prevOk prev name = true := by
          cases hp : prevOk prev name with
          | true => rfl
          | false => exact absurd (.inr (.inr hp)) hcond
        obtain ⟨a1, a2, a3, a4⟩ := hV d d2 _ (ρ - (1 + name.size)) ρ1 (by omega) (by rw [hv]; exact hvf)
        rw [hv] at a2
        simp only at a2
        obtain ⟨b1, b2, b3, b4⟩ := hQ d d2 (some name) r1 ρ1 ρ' q' (by rw [hq]) (by omega) h
        refine ⟨⟨hsz, hprev, a1, b1⟩, by simp [Fs.enc, a2, b2], ?_, fun _ => b4 a4⟩
        have e : name.data.toList.length = name.size := by rw [Array.length_toList]; rfl
        simp only [Fs.enc, List.length_append, List.length_cons]
        omega
end

end Go.Proofs.Ytkcdakohmfodjaa

namespace Go.Proofs.Ytkcdakohmfodjaa

mutual
theorem V.fit_good : ∀ (v : V) (d : Nat) (ρ ρ' : Int), ρ ≤ 2000 → v.fit d ρ = some ρ' → v.good ∧ (v.enc.length : Int) ≤ 10 * (ρ - ρ') ∧ 0 ≤ ρ'
  | .mk k n f s t ks fs, d, ρ, ρ', hρ, h => by
    have hV := Vs.fit_good ks
    have hF := Fs.fit_good fs
    obtain ⟨h0, h1⟩ := V.fit_inv h
    have ht : t.size ≤ 2000 := by omega
    rcases h1 with ⟨rfl, hs⟩ | ⟨rfl, hk⟩ | ⟨rfl, hf⟩
    · have := V.enc_simple hs t ks ks fs fs
      exact ⟨⟨ht, .inl hs⟩, by omega, h0⟩
    · obtain ⟨g1, g3, g4⟩ := hV (d - 1) _ ρ' (by omega) hk
      refine ⟨⟨ht, .inr (.inl ⟨rfl, g1, by omega⟩)⟩, ?_, g4 h0⟩
      simp [V.enc, be_len]; omega
    · obtain ⟨g1, g3, g4⟩ := hF (d - 1) none _ ρ' (by omega) hf
      refine ⟨⟨ht, .inr (.inr ⟨rfl, g1, by omega⟩)⟩, ?_, g4 h0⟩
      simp [V.enc, be_len]; omega
theorem Vs.fit_good : ∀ (ks : Vs) (d : Nat) (ρ ρ' : Int), ρ ≤ 2000 → ks.fit d ρ = some ρ' → ks.good ∧ (ks.enc.length : Int) ≤ 10 * (ρ - ρ') ∧ (0 ≤ ρ → 0 ≤ ρ')
  | .nil, d, ρ, ρ', hρ, h => by
    simp only [Vs.fit, Option.some.injEq] at h
    subst h
    exact ⟨trivial, by simp [Vs.enc], fun h => h⟩
  | .cons v q, d, ρ, ρ', hρ, h => by
    have hV := V.fit_good v
    have hQ := Vs.fit_good q
    rw [Vs.fit] at h
    cases hvf : v.fit d ρ with
    | none => rw [hvf] at h; cases h
    | some ρ1 =>
      rw [hvf] at h
      simp only at h
      obtain ⟨a1, a3, a4⟩ := hV d ρ ρ1 hρ hvf
      obtain ⟨b1, b3, b4⟩ := hQ d ρ1 ρ' (by omega) h
      refine ⟨⟨a1, b1⟩, ?_, fun _ => b4 a4⟩
      simp only [Vs.enc, List.length_append]
      omega
theorem Fs.fit_good : ∀ (fs : Fs) (d : Nat) (prev : Option ByteArray) (ρ ρ' : Int), ρ ≤ 2000 → fs.fit d prev ρ = some ρ' → fs.good prev ∧ (fs.enc.length : Int) ≤ 10 * (ρ - ρ') ∧ (0 ≤ ρ → 0 ≤ ρ')
  | .nil, d, prev, ρ, ρ', hρ, h => by
    simp only [Fs.fit, Option.some.injEq] at h
    subst h
    exact ⟨trivial, by simp [Fs.enc], fun h => h⟩
  | .cons name v q, d, prev, ρ, ρ', hρ, h => by
    have hV := V.fit_good v
    have hQ := Fs.fit_good q
    rw [Fs.fit] at h
    by_cases hcond : name.size > 255 ∨ ρ - (1 + (name.size : Int)) < 0 ∨ prevOk prev name = false
    · rw [if_pos hcond] at h; cases h
    rw [if_neg hcond] at h
    cases hvf : v.fit d (ρ - (1 + name.size)) with
    | none => rw [hvf] at h; cases h
    | some ρ1 =>
      rw [hvf] at h
      simp only at h
      have hsz : name.size ≤ 255 := by omega
      have hprev : prevOk prev name = true := by
        cases hp : prevOk prev name with
        | true => rfl
        | false => exact absurd (.inr (.inr hp)) hcond
      obtain ⟨a1, a3, a4⟩ := hV d (ρ - (1 + name.size)) ρ1 (by omega) hvf
      obtain ⟨b1, b3, b4⟩ := hQ d (some name) ρ1 ρ' (by omega) h
      refine ⟨⟨hsz, hprev, a1, b1⟩, ?_, fun _ => b4 a4⟩
      have e : name.data.toList.length = name.size := by rw [Array.length_toList]; rfl
      simp only [Fs.enc, List.length_append, List.length_cons]
      omega
end

end Go.Proofs.Ytkcdakohmfodjaa
