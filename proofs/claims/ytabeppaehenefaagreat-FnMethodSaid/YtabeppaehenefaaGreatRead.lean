/-
  Values and fields as they lie in memory: what a slice of values, of fields reads as.
-/
import Derived.Test.YtabeppaehenefaaGreatMem
import Derived.Test.YtabeppaehenefaaGreatG1
namespace Go.Proofs.YtabeppaehenefaaGreat
open Go.RowKit

/-- the cells from address A on are xs; their block is one of p -/
def Rd (w : World) (p : Nat → Prop) (A : Option Addr) (xs : List Value) : Prop :=
  xs ≠ [] → ∃ b off, A = some ⟨b, off, none⟩ ∧ p b ∧ ∀ j u, xs[j]? = some u → w.cell? ⟨b, off + j, none⟩ = some u

mutual
/-- a value's own numbers fit their kinds -/
def V.ok : V → Prop
  | .mk k n f s t ks fs => (0 ≤ k ∧ k ≤ 255) ∧ (-9223372036854775808 ≤ n ∧ n ≤ 9223372036854775807) ∧ f < 18446744073709551616 ∧ (-9223372036854775808 ≤ s ∧ s ≤ 9223372036854775807) ∧ t.size ≤ 140737488355328 ∧ ks.ok ∧ fs.ok ∧ ks.len ≤ 140737488355328 ∧ fs.len ≤ 140737488355328
def Vs.ok : Vs → Prop
  | .nil => True
  | .cons v r => v.ok ∧ r.ok
def Fs.ok : Fs → Prop
  | .nil => True
  | .cons name v r => name.size ≤ 140737488355328 ∧ v.ok ∧ r.ok
end

mutual
/-- the seven cells of a value -/
def RdV (w : World) (p : Nat → Prop) : V → List Value → Prop
  | .mk k n f s t ks fs, cs => ∃ a1 c1 a2 c2 xs ys, cs = [.int .u8 k, .int .i64 n, .float .f64 f, .int .i64 s, .string t, .slice a1 ks.len c1, .slice a2 fs.len c2] ∧
      Rd w p a1 xs ∧ VsC w p ks xs ∧ ks.len ≤ c1 ∧ Rd w p a2 ys ∧ FsC w p fs ys ∧ fs.len ≤ c2
/-- the cells of values, one behind the other -/
def VsC (w : World) (p : Nat → Prop) : Vs → List Value → Prop
  | .nil, cs => cs = []
  | .cons v r, cs => ∃ vc cs', cs = vc ++ cs' ∧ RdV w p v vc ∧ VsC w p r cs'
/-- the cells of fields, one behind the other -/
def FsC (w : World) (p : Nat → Prop) : Fs → List Value → Prop
  | .nil, cs => cs = []
  | .cons name v r, cs => ∃ vc cs', cs = .string name :: (vc ++ cs') ∧ RdV w p v vc ∧ FsC w p r cs'
end

theorem RdV.len {w : World} {p : Nat → Prop} {v : V} {cs : List Value} (h : RdV w p v cs) : cs.length = 7 := by
  obtain ⟨k, n, f, s, t, ks, fs⟩ := v
  rw [RdV] at h
  obtain ⟨a1, c1, a2, c2, xs, ys, rfl, _⟩ := h
  rfl
theorem VsC.len {w : World} {p : Nat → Prop} : ∀ {vs : Vs} {cs : List Value}, VsC w p vs cs → cs.length = vs.len * 7
  | .nil, cs, h => by rw [VsC] at h; subst h; rfl
  | .cons v r, cs, h => by
    rw [VsC] at h
    obtain ⟨vc, cs', rfl, h1, h2⟩ := h
    rw [List.length_append, h1.len, h2.len, Vs.len]
    omega
theorem FsC.len {w : World} {p : Nat → Prop} : ∀ {fs : Fs} {cs : List Value}, FsC w p fs cs → cs.length = fs.len * 8
  | .nil, cs, h => by rw [FsC] at h; subst h; rfl
  | .cons name v r, cs, h => by
    rw [FsC] at h
    obtain ⟨vc, cs', rfl, h1, h2⟩ := h
    rw [List.length_cons, List.length_append, h1.len, h2.len, Fs.len]
    omega

theorem Rd.keep {w w1 : World} {p : Nat → Prop} {A : Option Addr} {xs : List Value} (h : Rd w p A xs) (hk : ∀ g, p g → w1.heap[g]? = w.heap[g]?) : Rd w1 p A xs := by
  intro hn
  obtain ⟨b, off, e, h1, h3⟩ := h hn
  exact ⟨b, off, e, h1, fun j u hu => (World.cell?_of_block (w := w) (hk b h1)).trans (h3 j u hu)⟩
theorem Rd.more {w : World} {p q : Nat → Prop} {A : Option Addr} {xs : List Value} (h : Rd w p A xs) (hl : ∀ g, p g → q g) : Rd w q A xs := by
  intro hn
  obtain ⟨b, off, e, h1, h3⟩ := h hn
  exact ⟨b, off, e, hl b h1, h3⟩

mutual
theorem RdV.keep {w w1 : World} {p : Nat → Prop} (hk : ∀ g, p g → w1.heap[g]? = w.heap[g]?) : ∀ {v : V} {cs : List Value}, RdV w p v cs → RdV w1 p v cs
  | .mk k n f s t ks fs, cs, h => by
    have h1 : ∀ xs, VsC w p ks xs → VsC w1 p ks xs := fun xs => VsC.keep hk
    have h2 : ∀ xs, FsC w p fs xs → FsC w1 p fs xs := fun xs => FsC.keep hk
    rw [RdV] at h ⊢
    obtain ⟨a1, c1, a2, c2, xs, ys, e, x1, x2, x3, x4, x5, x6⟩ := h
    exact ⟨a1, c1, a2, c2, xs, ys, e, x1.keep hk, h1 _ x2, x3, x4.keep hk, h2 _ x5, x6⟩
theorem VsC.keep {w w1 : World} {p : Nat → Prop} (hk : ∀ g, p g → w1.heap[g]? = w.heap[g]?) : ∀ {vs : Vs} {cs : List Value}, VsC w p vs cs → VsC w1 p vs cs
  | .nil, cs, h => by rw [VsC] at h ⊢; exact h
  | .cons v r, cs, h => by
    have h1 : ∀ xs, RdV w p v xs → RdV w1 p v xs := fun xs => RdV.keep hk
    have h2 : ∀ xs, VsC w p r xs → VsC w1 p r xs := fun xs => VsC.keep hk
    rw [VsC] at h ⊢
    obtain ⟨vc, cs', e, x1, x2⟩ := h
    exact ⟨vc, cs', e, h1 _ x1, h2 _ x2⟩
theorem FsC.keep {w w1 : World} {p : Nat → Prop} (hk : ∀ g, p g → w1.heap[g]? = w.heap[g]?) : ∀ {fs : Fs} {cs : List Value}, FsC w p fs cs → FsC w1 p fs cs
  | .nil, cs, h => by rw [FsC] at h ⊢; exact h
  | .cons name v r, cs, h => by
    have h1 : ∀ xs, RdV w p v xs → RdV w1 p v xs := fun xs => RdV.keep hk
    have h2 : ∀ xs, FsC w p r xs → FsC w1 p r xs := fun xs => FsC.keep hk
    rw [FsC] at h ⊢
    obtain ⟨vc, cs', e, x1, x2⟩ := h
    exact ⟨vc, cs', e, h1 _ x1, h2 _ x2⟩
end
mutual
theorem RdV.more {w : World} {p q : Nat → Prop} (hl : ∀ g, p g → q g) : ∀ {v : V} {cs : List Value}, RdV w p v cs → RdV w q v cs
  | .mk k n f s t ks fs, cs, h => by
    have h1 : ∀ xs, VsC w p ks xs → VsC w q ks xs := fun xs => VsC.more hl
    have h2 : ∀ xs, FsC w p fs xs → FsC w q fs xs := fun xs => FsC.more hl
    rw [RdV] at h ⊢
    obtain ⟨a1, c1, a2, c2, xs, ys, e, x1, x2, x3, x4, x5, x6⟩ := h
    exact ⟨a1, c1, a2, c2, xs, ys, e, x1.more hl, h1 _ x2, x3, x4.more hl, h2 _ x5, x6⟩
theorem VsC.more {w : World} {p q : Nat → Prop} (hl : ∀ g, p g → q g) : ∀ {vs : Vs} {cs : List Value}, VsC w p vs cs → VsC w q vs cs
  | .nil, cs, h => by rw [VsC] at h ⊢; exact h
  | .cons v r, cs, h => by
    have h1 : ∀ xs, RdV w p v xs → RdV w q v xs := fun xs => RdV.more hl
    have h2 : ∀ xs, VsC w p r xs → VsC w q r xs := fun xs => VsC.more hl
    rw [VsC] at h ⊢
    obtain ⟨vc, cs', e, x1, x2⟩ := h
    exact ⟨vc, cs', e, h1 _ x1, h2 _ x2⟩
theorem FsC.more {w : World} {p q : Nat → Prop} (hl : ∀ g, p g → q g) : ∀ {fs : Fs} {cs : List Value}, FsC w p fs cs → FsC w q fs cs
  | .nil, cs, h => by rw [FsC] at h ⊢; exact h
  | .cons name v r, cs, h => by
    have h1 : ∀ xs, RdV w p v xs → RdV w q v xs := fun xs => RdV.more hl
    have h2 : ∀ xs, FsC w p r xs → FsC w q r xs := fun xs => FsC.more hl
    rw [FsC] at h ⊢
    obtain ⟨vc, cs', e, x1, x2⟩ := h
    exact ⟨vc, cs', e, h1 _ x1, h2 _ x2⟩
end
/-- one value more behind the others -/
theorem VsC.snoc {w : World} {p : Nat → Prop} {v : V} {vc : List Value} (hv : RdV w p v vc) : ∀ {vs : Vs} {cs : List Value}, VsC w p vs cs → VsC w p (vs.app (.cons v .nil)) (cs ++ vc)
  | .nil, cs, h => by rw [VsC] at h; subst h; rw [Vs.app, VsC]; exact ⟨vc, [], by simp, hv, by rw [VsC]⟩
  | .cons u r, cs, h => by
    have ih : ∀ cs, VsC w p r cs → VsC w p (r.app (.cons v .nil)) (cs ++ vc) := fun cs => VsC.snoc hv
    rw [VsC] at h
    obtain ⟨uc, cs', rfl, x1, x2⟩ := h
    rw [Vs.app, VsC]
    exact ⟨uc, cs' ++ vc, by simp, x1, ih _ x2⟩
theorem FsC.snoc {w : World} {p : Nat → Prop} {name : ByteArray} {v : V} {vc : List Value} (hv : RdV w p v vc) : ∀ {fs : Fs} {cs : List Value}, FsC w p fs cs → FsC w p (fs.app (.cons name v .nil)) (cs ++ .string name :: vc)
  | .nil, cs, h => by rw [FsC] at h; subst h; rw [Fs.app, FsC]; exact ⟨vc, [], by simp, hv, by rw [FsC]⟩
  | .cons n u r, cs, h => by
    have ih : ∀ cs, FsC w p r cs → FsC w p (r.app (.cons name v .nil)) (cs ++ .string name :: vc) := fun cs => FsC.snoc hv
    rw [FsC] at h
    obtain ⟨uc, cs', rfl, x1, x2⟩ := h
    rw [Fs.app, FsC]
    exact ⟨uc, cs' ++ .string name :: vc, by simp, x1, ih _ x2⟩
theorem Vs.len_app : ∀ (a b : Vs), (a.app b).len = a.len + b.len
  | .nil, b => by simp [Vs.app, Vs.len]
  | .cons v r, b => by simp [Vs.app, Vs.len, Vs.len_app r b]; omega
theorem Fs.len_app : ∀ (a b : Fs), (a.app b).len = a.len + b.len
  | .nil, b => by simp [Fs.app, Fs.len]
  | .cons n v r, b => by simp [Fs.app, Fs.len, Fs.len_app r b]; omega
/-- a row of the call's own, as cells that are read -/
theorem Rd.of_own {w : World} {H : Nat} {p : Nat → Prop} {e : TypeId} {size n : Nat} {A : Option Addr} {c : Nat} {xs : List Value} (h : w.ownsRow H e size (.slice A n c) n xs) (hp : ∀ g, (Value.slice A n c).ownBlock = some g → H ≤ g → g < w.heap.size → p g) : Rd w p A xs ∧ n ≤ c := by
  rcases h.2 with ⟨e1, h0⟩ | ⟨g, cap, cur, e1, hg, hh2, hc, _⟩
  · injection e1 with e2 _ e3
    subst e2 h0
    exact ⟨fun hn => absurd (List.eq_nil_of_length_eq_zero (by simpa using h.1)) hn, by omega⟩
  · injection e1 with e2 _ e3
    subst e2 e3
    refine ⟨fun _ => ⟨g, 0, rfl, hp g rfl hg (Array.getElem?_eq_some_iff.1 hh2).1, fun j u hu => ?_⟩, hc⟩
    have := h.cells (g := g) rfl j u hu
    have hadd : (⟨g, 0, none⟩ : Addr).add j = ⟨g, j, none⟩ := by unfold Addr.add; split <;> simp_all
    rw [hadd] at this
    simpa using this

/-- the m-th field's cells -/
theorem FsC.at_ {w : World} {p : Nat → Prop} {A : Option Addr} {xs : List Value} {m : Nat} {name : ByteArray} {k n : Int} {f : Nat} {s : Int} {t : ByteArray} {ks : Vs} {fs r : Fs}
    (hr : Rd w p A xs) (h : FsC w p (.cons name (.mk k n f s t ks fs) r) (xs.drop m)) :
    ∃ b off a1 c1 a2 c2 ys zs, A = some ⟨b, off, none⟩ ∧ p b ∧ w.cell? ⟨b, off + m, none⟩ = some (.string name) ∧ w.cell? ⟨b, off + m + 1, none⟩ = some (.int .u8 k) ∧ w.cell? ⟨b, off + m + 2, none⟩ = some (.int .i64 n) ∧
      w.cell? ⟨b, off + m + 3, none⟩ = some (.float .f64 f) ∧ w.cell? ⟨b, off + m + 4, none⟩ = some (.int .i64 s) ∧ w.cell? ⟨b, off + m + 5, none⟩ = some (.string t) ∧
      w.cell? ⟨b, off + m + 6, none⟩ = some (.slice a1 ks.len c1) ∧ w.cell? ⟨b, off + m + 7, none⟩ = some (.slice a2 fs.len c2) ∧
      Rd w p a1 ys ∧ VsC w p ks ys ∧ ks.len ≤ c1 ∧ Rd w p a2 zs ∧ FsC w p fs zs ∧ fs.len ≤ c2 ∧ FsC w p r (xs.drop (m + 8)) := by
  rw [FsC] at h
  obtain ⟨vc, cs', e, h1, h2⟩ := h
  rw [RdV] at h1
  obtain ⟨a1, c1, a2, c2, ys, zs, rfl, x1, x2, x3, x4, x5, x6⟩ := h1
  have hne : xs ≠ [] := by rintro rfl; simp at e
  obtain ⟨b, off, rfl, hp, hc⟩ := hr hne
  have hx : ∀ j, xs[m + j]? = (xs.drop m)[j]? := fun j => by rw [List.getElem?_drop]
  rw [e] at hx
  refine ⟨b, off, a1, c1, a2, c2, ys, zs, rfl, hp, hc m _ (hx 0), ?_, ?_, ?_, ?_, ?_, ?_, ?_, x1, x2, x3, x4, x5, x6, ?_⟩
  · rw [Nat.add_assoc]; exact hc _ _ (hx 1)
  · rw [Nat.add_assoc]; exact hc _ _ (hx 2)
  · rw [Nat.add_assoc]; exact hc _ _ (hx 3)
  · rw [Nat.add_assoc]; exact hc _ _ (hx 4)
  · rw [Nat.add_assoc]; exact hc _ _ (hx 5)
  · rw [Nat.add_assoc]; exact hc _ _ (hx 6)
  · rw [Nat.add_assoc]; exact hc _ _ (hx 7)
  · rw [← List.drop_drop, e]; exact h2
/-- the m-th value's cells -/
theorem VsC.at_ {w : World} {p : Nat → Prop} {A : Option Addr} {xs : List Value} {m : Nat} {k n : Int} {f : Nat} {s : Int} {t : ByteArray} {ks : Vs} {fs : Fs} {r : Vs}
    (hr : Rd w p A xs) (h : VsC w p (.cons (.mk k n f s t ks fs) r) (xs.drop m)) :
    ∃ b off a1 c1 a2 c2 ys zs, A = some ⟨b, off, none⟩ ∧ p b ∧ w.cell? ⟨b, off + m, none⟩ = some (.int .u8 k) ∧ w.cell? ⟨b, off + m + 1, none⟩ = some (.int .i64 n) ∧
      w.cell? ⟨b, off + m + 2, none⟩ = some (.float .f64 f) ∧ w.cell? ⟨b, off + m + 3, none⟩ = some (.int .i64 s) ∧ w.cell? ⟨b, off + m + 4, none⟩ = some (.string t) ∧
      w.cell? ⟨b, off + m + 5, none⟩ = some (.slice a1 ks.len c1) ∧ w.cell? ⟨b, off + m + 6, none⟩ = some (.slice a2 fs.len c2) ∧
      Rd w p a1 ys ∧ VsC w p ks ys ∧ ks.len ≤ c1 ∧ Rd w p a2 zs ∧ FsC w p fs zs ∧ fs.len ≤ c2 ∧ VsC w p r (xs.drop (m + 7)) := by
  rw [VsC] at h
  obtain ⟨vc, cs', e, h1, h2⟩ := h
  rw [RdV] at h1
  obtain ⟨a1, c1, a2, c2, ys, zs, rfl, x1, x2, x3, x4, x5, x6⟩ := h1
  have hne : xs ≠ [] := by rintro rfl; simp at e
  obtain ⟨b, off, rfl, hp, hc⟩ := hr hne
  have hx : ∀ j, xs[m + j]? = (xs.drop m)[j]? := fun j => by rw [List.getElem?_drop]
  rw [e] at hx
  refine ⟨b, off, a1, c1, a2, c2, ys, zs, rfl, hp, hc m _ (hx 0), ?_, ?_, ?_, ?_, ?_, ?_, x1, x2, x3, x4, x5, x6, ?_⟩
  · rw [Nat.add_assoc]; exact hc _ _ (hx 1)
  · rw [Nat.add_assoc]; exact hc _ _ (hx 2)
  · rw [Nat.add_assoc]; exact hc _ _ (hx 3)
  · rw [Nat.add_assoc]; exact hc _ _ (hx 4)
  · rw [Nat.add_assoc]; exact hc _ _ (hx 5)
  · rw [Nat.add_assoc]; exact hc _ _ (hx 6)
  · rw [← List.drop_drop, e]; exact h2

/-! ### cuts: bounds, and what was done so far -/
def Fs.join (acc : Fs) : Option Fs × Int → Option Fs × Int
  | (some q, r) => (some (acc.app q), r)
  | (none, r) => (none, r)
def Vs.join (acc : Vs) : Option Vs × Int → Option Vs × Int
  | (some q, r) => (some (acc.app q), r)
  | (none, r) => (none, r)
theorem Fs.app_assoc : ∀ (a b c : Fs), (a.app b).app c = a.app (b.app c)
  | .nil, b, c => rfl
  | .cons n v r, b, c => by simp [Fs.app, Fs.app_assoc r b c]
theorem Vs.app_assoc : ∀ (a b c : Vs), (a.app b).app c = a.app (b.app c)
  | .nil, b, c => rfl
  | .cons v r, b, c => by simp [Vs.app, Vs.app_assoc r b c]
theorem Fs.app_nil : ∀ (a : Fs), a.app .nil = a
  | .nil => rfl
  | .cons n v r => by simp [Fs.app, Fs.app_nil r]
theorem Vs.app_nil : ∀ (a : Vs), a.app .nil = a
  | .nil => rfl
  | .cons v r => by simp [Vs.app, Vs.app_nil r]
theorem Fs.join_nil (x : Option Fs × Int) : Fs.join .nil x = x := by obtain ⟨q, r⟩ := x; cases q <;> rfl
theorem Vs.join_nil (x : Option Vs × Int) : Vs.join .nil x = x := by obtain ⟨q, r⟩ := x; cases q <;> rfl
theorem Fs.join_step (acc : Fs) (name : ByteArray) (v : V) (q : Fs) (d : Nat) (r : Int) (h : ¬ (v.cut d (r - name.size)).2 < 0) :
    acc.join ((Fs.cons name v q).cutO d r) = (acc.app (.cons name (v.cut d (r - name.size)).1 .nil)).join (q.cutO d (v.cut d (r - name.size)).2) := by
  rw [Fs.cutO]
  generalize v.cut d (r - name.size) = c at h ⊢
  obtain ⟨v', r1⟩ := c
  simp only at h ⊢
  rw [if_neg h]
  generalize q.cutO d r1 = y
  obtain ⟨o, r2⟩ := y
  cases o with
  | none => rfl
  | some q' => simp [Fs.join, Fs.app_assoc, Fs.app]
theorem Fs.join_stop (acc : Fs) (name : ByteArray) (v : V) (q : Fs) (d : Nat) (r : Int) (h : (v.cut d (r - name.size)).2 < 0) :
    acc.join ((Fs.cons name v q).cutO d r) = (none, (v.cut d (r - name.size)).2) := by
  rw [Fs.cutO]
  generalize v.cut d (r - name.size) = c at h ⊢
  obtain ⟨v', r1⟩ := c
  simp only at h ⊢
  rw [if_pos h]
  rfl
theorem Vs.join_step (acc : Vs) (v : V) (q : Vs) (d : Nat) (r : Int) (h : ¬ r < 0) :
    acc.join ((Vs.cons v q).cut d r) = (acc.app (.cons (v.cut d r).1 .nil)).join (q.cut d (v.cut d r).2) := by
  rw [Vs.cut, if_neg h]
  generalize v.cut d r = c
  obtain ⟨v', r1⟩ := c
  simp only
  generalize q.cut d r1 = y
  obtain ⟨o, r2⟩ := y
  cases o with
  | none => rfl
  | some q' => simp [Vs.join, Vs.app_assoc, Vs.app]
theorem Vs.join_stop (acc : Vs) (v : V) (q : Vs) (d : Nat) (r : Int) (h : r < 0) : acc.join ((Vs.cons v q).cut d r) = (none, r) := by
  rw [Vs.cut, if_pos h]
  rfl

theorem zeroV_ok : zeroV.ok := by
  rw [V.ok]
  simp [Vs.ok, Fs.ok, Vs.len, Fs.len]
  exact Nat.zero_le _
theorem oneF_ok : oneF.ok := by
  rw [Fs.ok]
  exact ⟨Nat.zero_le _, zeroV_ok, by rw [Fs.ok]; trivial⟩
mutual
theorem V.cut_ok : ∀ (v : V) (d : Nat) (r : Int), v.ok → r ≤ 200000 → (v.cut d r).1.ok ∧ (v.cut d r).2 ≤ 200000 ∧ (-140737488355328 ≤ r → -562949953421312 ≤ (v.cut d r).2)
  | .mk k n f s t ks fs, d, r, h, hr => by
    have hV := Vs.cut_ok ks
    have hF := Fs.cut_ok fs
    rw [V.ok] at h
    obtain ⟨h1, h2, h3, h4, h5, h6, h7, h8, h9⟩ := h
    rw [V.cut]
    by_cases hc : r - (1 + (t.size : Int)) < 0 ∨ d = 0
    · rw [if_pos hc]; exact ⟨zeroV_ok, by simp only; omega, fun _ => by simp only; omega⟩
    rw [if_neg hc]
    obtain ⟨a1, a2, a3⟩ := hF (d - 1) (r - (1 + t.size)) h7 (by omega)
    generalize fs.cutO (d - 1) (r - (1 + t.size)) = cf at a1 a2 a3 ⊢
    obtain ⟨fs', r2⟩ := cf
    simp only at a1 a2 a3 ⊢
    obtain ⟨b1, b2, b3⟩ := hV (d - 1) r2 h6 a2
    generalize ks.cut (d - 1) r2 = ck at b1 b2 b3 ⊢
    obtain ⟨ks', r3⟩ := ck
    have ha3 := a3 (by omega)
    cases ks' with
    | none => exact ⟨zeroV_ok, b2, fun _ => b3 ha3⟩
    | some ks' =>
      refine ⟨?_, b2, fun _ => b3 ha3⟩
      obtain ⟨c1, c2⟩ := b1 ks' rfl
      simp only
      rw [V.ok]
      cases fs' with
      | none => exact ⟨h1, h2, h3, h4, h5, c1, oneF_ok, by omega, by simp [Fs.len]⟩
      | some fs' => exact ⟨h1, h2, h3, h4, h5, c1, (a1 fs' rfl).1, by omega, by have := (a1 fs' rfl).2; simp only [Option.getD_some]; omega⟩
theorem Vs.cut_ok : ∀ (ks : Vs) (d : Nat) (r : Int), ks.ok → r ≤ 200000 → (∀ q, (ks.cut d r).1 = some q → q.ok ∧ q.len = ks.len) ∧ (ks.cut d r).2 ≤ 200000 ∧ (-562949953421312 ≤ r → -562949953421312 ≤ (ks.cut d r).2)
  | .nil, d, r, h, hr => by
    rw [Vs.cut]
    exact ⟨fun q hq => by injection hq with hq; subst hq; exact ⟨h, rfl⟩, hr, fun h => h⟩
  | .cons v q, d, r, h, hr => by
    have hV := V.cut_ok v
    have hQ := Vs.cut_ok q
    rw [Vs.ok] at h
    rw [Vs.cut]
    by_cases h0 : r < 0
    · rw [if_pos h0]; exact ⟨fun q hq => (by cases hq), hr, fun h => h⟩
    rw [if_neg h0]
    obtain ⟨a1, a2, a3⟩ := hV d r h.1 hr
    generalize v.cut d r = c at a1 a2 a3 ⊢
    obtain ⟨v', r1⟩ := c
    simp only at a1 a2 a3 ⊢
    obtain ⟨b1, b2, b3⟩ := hQ d r1 h.2 a2
    generalize q.cut d r1 = c at b1 b2 b3 ⊢
    obtain ⟨q', r2⟩ := c
    have ha3 := a3 (by omega)
    cases q' with
    | none => exact ⟨fun q hq => (by cases hq), b2, fun _ => b3 ha3⟩
    | some q' =>
      refine ⟨fun u hu => ?_, b2, fun _ => b3 ha3⟩
      injection hu with hu
      subst hu
      obtain ⟨c1, c2⟩ := b1 q' rfl
      rw [Vs.ok, Vs.len, Vs.len, c2]
      exact ⟨⟨a1, c1⟩, rfl⟩
theorem Fs.cut_ok : ∀ (fs : Fs) (d : Nat) (r : Int), fs.ok → r ≤ 200000 → (∀ q, (fs.cutO d r).1 = some q → q.ok ∧ q.len = fs.len) ∧ (fs.cutO d r).2 ≤ 200000 ∧ (0 ≤ r → -562949953421312 ≤ (fs.cutO d r).2)
  | .nil, d, r, h, hr => by
    rw [Fs.cutO]
    exact ⟨fun q hq => by injection hq with hq; subst hq; exact ⟨h, rfl⟩, hr, fun h => by simp only; omega⟩
  | .cons name v q, d, r, h, hr => by
    have hV := V.cut_ok v
    have hQ := Fs.cut_ok q
    rw [Fs.ok] at h
    rw [Fs.cutO]
    obtain ⟨a1, a2, a3⟩ := hV d (r - name.size) h.2.1 (by omega)
    generalize v.cut d (r - name.size) = c at a1 a2 a3 ⊢
    obtain ⟨v', r1⟩ := c
    simp only at a1 a2 a3 ⊢
    have hn := h.1
    by_cases h0 : r1 < 0
    · rw [if_pos h0]; exact ⟨fun q hq => (by cases hq), a2, fun h => a3 (by omega)⟩
    rw [if_neg h0]
    obtain ⟨b1, b2, b3⟩ := hQ d r1 h.2.2 a2
    generalize q.cutO d r1 = c at b1 b2 b3 ⊢
    obtain ⟨q', r2⟩ := c
    have hb3 := b3 (by omega)
    cases q' with
    | none => exact ⟨fun q hq => (by cases hq), b2, fun _ => hb3⟩
    | some q' =>
      refine ⟨fun u hu => ?_, b2, fun _ => hb3⟩
      injection hu with hu
      subst hu
      obtain ⟨c1, c2⟩ := b1 q' rfl
      rw [Fs.ok, Fs.len, Fs.len, c2]
      exact ⟨⟨hn, a1, c1⟩, rfl⟩
end

end Go.Proofs.YtabeppaehenefaaGreat
