/-
  What a slice of fields that came in reads as.
-/
import Derived.Test.YtkcdakohmfodjaaRead
import Derived.Test.YtkcdakohmfodjaaProg
import Derived.ChangeArms
import Derived.SizedLaws
import Derived.KernelRfl
namespace Go.Proofs.Ytkcdakohmfodjaa
open Go.RowKit

theorem spot_none {w : World} {a : Addr} {v : Value} (h : w.cell? a = some v) : a.spot = none := by
  unfold World.cell? at h
  split at h
  · split at h
    · cases h
    · rename_i hs; simpa using hs
  · cases h
theorem cell_lt {w : World} {a : Addr} {v : Value} (h : w.cell? a = some v) : a.block < w.heap.size := by
  unfold World.cell? at h
  split at h
  · rename_i hb; exact (Array.getElem?_eq_some_iff.1 hb).1
  · cases h

theorem cells_at {w : World} {base : Nat} {a : Addr} {n : Nat} {cs : List Value} (h : w.cells? base a n = some cs) : cs.length = n ∧ ∀ j, j < n → w.cell? (a.add j) = cs[j]? := by
  unfold World.cells? at h
  split at h
  · refine ⟨by simpa using mapM_some_length h, fun j hj => mapM_some_get h j j (by simp [hj])⟩
  · cases h

theorem add_none (b off n : Nat) : (⟨b, off, none⟩ : Addr).add n = ⟨b, off + n, none⟩ := by unfold Addr.add; split <;> simp_all

section
variable {H : Type} {enc : TypeId × Value → H} {w : World} {sp : Nat → Bool} {held : Bool}

theorem trod_float {P : Program} {base fuel : Nat} {t : TypeId} {cs : List Value} {x : DataW H × List MemPlace} {k : FloatKind} (ht : P.underlying t = some (.float k)) (h : DataW.trod enc P w base sp held fuel t cs = some x) : ∃ b, cs = [.float k b] ∧ (Lit.float k b).wf = true := by
  cases fuel with
  | zero => simp [DataW.trod] at h
  | succ n =>
    unfold DataW.trod at h
    rw [ht] at h
    split at h <;> simp_all

/-- nothing in it is larger than what is read -/
def Light (d : DataW H) (t : TypeId) : Prop := ∀ n ∈ d.weights Try.prog t, n ≤ reachBytes

theorem Light.part {t : TypeId} {fs : Array Field} (ht : Try.prog.underlying t = some (.struct fs)) {parts : List (DataW H)} (h : Light (.agg parts) t) {j : Nat} {f : Field} {d : DataW H} (hf : fs[j]? = some f) (hd : parts[j]? = some d) : Light d f.type := by
  intro n hn
  refine h n ?_
  have : n ∈ DataW.weightsEach Try.prog (fs.toList.map (·.type)) parts := DataW.weights_mem_each (j := j) (by simp [hf]) hd n hn
  simpa [DataW.weights, ht] using this

theorem weights_all {e : TypeId} : ∀ {l : List (DataW H)} {d : DataW H}, d ∈ l → ∀ n ∈ d.weights Try.prog e, n ∈ DataW.weightsAll Try.prog e l
  | x :: r, d, hd, n, hn => by
    rw [DataW.weightsAll, List.mem_append]
    rcases List.mem_cons.1 hd with rfl | h
    · exact .inl hn
    · exact .inr (weights_all h n hn)

theorem Light.elems {t e : TypeId} (ht : Try.prog.underlying t = some (.slice e)) {elems rest : List (DataW H)} (h : Light (.slice elems rest) t) : (elems.length + rest.length) * Try.prog.bytesOf e ≤ reachBytes ∧ ∀ d ∈ elems, Light d e := by
  refine ⟨h _ (by simp [DataW.weights, ht]), fun d hd n hn => h n ?_⟩
  have := weights_all hd n hn
  simp [DataW.weights, ht, this]

theorem vs_build {p : Nat → Prop} {b off len : Nat} (h : ∀ i, i < len → ∃ v vc, V.ok v ∧ RdV w p v vc ∧ ∀ j u, vc[j]? = some u → w.cell? ⟨b, off + i * 7 + j, none⟩ = some u) :
    ∀ k, k ≤ len → ∃ vs xs, Vs.len vs = k ∧ vs.ok ∧ VsC w p vs xs ∧ ∀ j u, xs[j]? = some u → w.cell? ⟨b, off + (len - k) * 7 + j, none⟩ = some u
  | 0, _ => ⟨.nil, [], rfl, by rw [Vs.ok]; trivial, by rw [VsC], fun j u hu => by simp at hu⟩
  | k + 1, hk => by
    obtain ⟨vs, xs, e, ho, hc, hx⟩ := vs_build h k (by omega)
    obtain ⟨v, vc, ho2, hv, hx2⟩ := h (len - (k + 1)) (by omega)
    refine ⟨.cons v vs, vc ++ xs, by rw [Vs.len, e], by rw [Vs.ok]; exact ⟨ho2, ho⟩, by rw [VsC]; exact ⟨vc, xs, rfl, hv, hc⟩, fun j u hu => ?_⟩
    have hl := hv.len
    rcases Nat.lt_or_ge j 7 with hj | hj
    · rw [List.getElem?_append_left (by omega)] at hu
      exact hx2 j u hu
    · rw [List.getElem?_append_right (by omega), hl] at hu
      have := hx (j - 7) u hu
      rwa [show off + (len - k) * 7 + (j - 7) = off + (len - (k + 1)) * 7 + j by omega] at this
theorem fs_build {p : Nat → Prop} {b off len : Nat} (h : ∀ i, i < len → ∃ name v vc, ByteArray.size name ≤ 140737488355328 ∧ V.ok v ∧ RdV w p v vc ∧ ∀ j u, (Value.string name :: vc)[j]? = some u → w.cell? ⟨b, off + i * 8 + j, none⟩ = some u) :
    ∀ k, k ≤ len → ∃ fs xs, Fs.len fs = k ∧ fs.ok ∧ FsC w p fs xs ∧ ∀ j u, xs[j]? = some u → w.cell? ⟨b, off + (len - k) * 8 + j, none⟩ = some u
  | 0, _ => ⟨.nil, [], rfl, by rw [Fs.ok]; trivial, by rw [FsC], fun j u hu => by simp at hu⟩
  | k + 1, hk => by
    obtain ⟨fs, xs, e, ho, hc, hx⟩ := fs_build h k (by omega)
    obtain ⟨name, v, vc, hn, ho2, hv, hx2⟩ := h (len - (k + 1)) (by omega)
    refine ⟨.cons name v fs, .string name :: (vc ++ xs), by rw [Fs.len, e], by rw [Fs.ok]; exact ⟨hn, ho2, ho⟩, by rw [FsC]; exact ⟨vc, xs, rfl, hv, hc⟩, fun j u hu => ?_⟩
    have hl := hv.len
    rcases Nat.lt_or_ge j 8 with hj | hj
    · refine hx2 j u ?_
      rw [← List.cons_append, List.getElem?_append_left (by simp; omega)] at hu
      exact hu
    · rw [← List.cons_append, List.getElem?_append_right (by simp; omega)] at hu
      simp only [List.length_cons, hl] at hu
      have := hx (j - 8) u hu
      rwa [show off + (len - k) * 8 + (j - 8) = off + (len - (k + 1)) * 8 + j by omega] at this

abbrev Old (w : World) : Nat → Prop := fun g => g < w.heap.size

def DownV (enc : TypeId × Value → H) (w : World) (sp : Nat → Bool) (held : Bool) (n : Nat) : Prop := ∀ cs x, DataW.trod enc Try.prog w 0 sp held n 80 cs = some x → Light x.1 80 → ∃ v, V.ok v ∧ RdV w (Old w) v cs
def DownVs (enc : TypeId × Value → H) (w : World) (sp : Nat → Bool) (held : Bool) (n : Nat) : Prop := ∀ cs x, DataW.trod enc Try.prog w 0 sp held n 78 cs = some x → Light x.1 78 →
  ∃ vs A c xs, cs = [.slice A (Vs.len vs) c] ∧ vs.ok ∧ vs.len ≤ 140737488355328 ∧ vs.len ≤ c ∧ Rd w (Old w) A xs ∧ VsC w (Old w) vs xs
def DownFs (enc : TypeId × Value → H) (w : World) (sp : Nat → Bool) (held : Bool) (n : Nat) : Prop := ∀ cs x, DataW.trod enc Try.prog w 0 sp held n 22 cs = some x → Light x.1 22 →
  ∃ fs A c xs, cs = [.slice A (Fs.len fs) c] ∧ fs.ok ∧ fs.len ≤ 140737488355328 ∧ fs.len ≤ c ∧ Rd w (Old w) A xs ∧ FsC w (Old w) fs xs

theorem cells80 : Try.prog.cellsOf 80 = 7 := by kernel_rfl
theorem cells82 : Try.prog.cellsOf 82 = 8 := by kernel_rfl
theorem cells1 : Try.prog.cellsOf 5 = 1 ∧ Try.prog.cellsOf 2 = 1 ∧ Try.prog.cellsOf 77 = 1 ∧ Try.prog.cellsOf 3 = 1 ∧ Try.prog.cellsOf 9 = 1 ∧ Try.prog.cellsOf 78 = 1 ∧ Try.prog.cellsOf 22 = 1 := by refine ⟨?_, ?_, ?_, ?_, ?_, ?_, ?_⟩ <;> kernel_rfl
theorem bytes80 : 1 ≤ Try.prog.bytesOf 80 := by decide +kernel
theorem bytes82 : 1 ≤ Try.prog.bytesOf 82 := by decide +kernel

theorem list7 {α : Type} (l : List α) (h : l.length = 7) : ∃ a b c d e f g, l = [a, b, c, d, e, f, g] := by
  rcases l with _ | ⟨a, _ | ⟨b, _ | ⟨c, _ | ⟨d, _ | ⟨e, _ | ⟨f, _ | ⟨g, _ | ⟨x, t⟩⟩⟩⟩⟩⟩⟩⟩
  all_goals first | (exfalso; simp at h; done) | exact ⟨a, b, c, d, e, f, g, rfl⟩
theorem list2 {α : Type} (l : List α) (h : l.length = 2) : ∃ a b, l = [a, b] := by
  rcases l with _ | ⟨a, _ | ⟨b, _ | ⟨x, t⟩⟩⟩
  all_goals first | (exfalso; simp at h; done) | exact ⟨a, b, rfl⟩
theorem list1 {α : Type} (l : List α) (h : 0 < l.length) : ∃ a t, l = a :: t := by
  rcases l with _ | ⟨a, t⟩
  · simp at h
  · exact ⟨a, t, rfl⟩

theorem down_v {n : Nat} (hv : DownVs enc w sp held n) (hf : DownFs enc w sp held n) : DownV enc w sp held (n + 1) := by
  intro cs x h hl
  obtain ⟨xs, m, hm, rfl, hlen, hxl, hget⟩ := DataW.trod_struct Try.underlying80 h
  obtain rfl : m = n := by omega
  rw [cells80] at hlen
  obtain ⟨c0, c1, c2, c3, c4, c5, c6, rfl⟩ := list7 cs hlen
  obtain ⟨x0, x1, x2, x3, x4, x5, x6, rfl⟩ := list7 xs hxl
  have g0 := hget 0 ({ name := "Kind", type := 5, offset := 0, embedded := false, tag := "", pkgPath := "", byteOffset := 0 } : Field) rfl
  have g1 := hget 1 ({ name := "N", type := 2, offset := 1, embedded := false, tag := "", pkgPath := "", byteOffset := 8 } : Field) rfl
  have g2 := hget 2 ({ name := "F", type := 77, offset := 2, embedded := false, tag := "", pkgPath := "", byteOffset := 16 } : Field) rfl
  have g3 := hget 3 ({ name := "Scale", type := 3, offset := 3, embedded := false, tag := "", pkgPath := "", byteOffset := 24 } : Field) rfl
  have g4 := hget 4 ({ name := "Text", type := 9, offset := 4, embedded := false, tag := "", pkgPath := "", byteOffset := 32 } : Field) rfl
  have g5 := hget 5 ({ name := "Kids", type := 78, offset := 5, embedded := false, tag := "", pkgPath := "", byteOffset := 48 } : Field) rfl
  have g6 := hget 6 ({ name := "Fields", type := 22, offset := 6, embedded := false, tag := "", pkgPath := "", byteOffset := 72 } : Field) rfl
  obtain ⟨k5, k2, k77, k3, k9, k78, k22⟩ := cells1
  simp only [k5, k2, k77, k3, k9, k78, k22, List.drop_zero, List.drop_succ_cons, List.take_succ_cons, List.take_zero, List.getElem?_cons_zero, List.getElem?_cons_succ] at g0 g1 g2 g3 g4 g5 g6
  obtain ⟨a0, e0, _, w0⟩ := DataW.trod_int Try.underlying5 g0
  obtain ⟨a1, e1, _, w1⟩ := DataW.trod_int Try.underlying2 g1
  obtain ⟨a2, e2, w2⟩ := trod_float Try.underlying77 g2
  obtain ⟨a3, e3, _, w3⟩ := DataW.trod_int Try.underlying3 g3
  obtain ⟨a4, e4, hx4, w4⟩ := DataW.trod_string Try.underlying9 g4
  have l4 := hl.part Try.underlying80 (j := 4) rfl (d := x4.1) rfl
  have l5 := hl.part Try.underlying80 (j := 5) rfl (d := x5.1) rfl
  have l6 := hl.part Try.underlying80 (j := 6) rfl (d := x6.1) rfl
  obtain ⟨ks, A1, d1, us, e5, o5, n5, m5, r5, v5⟩ := hv _ _ g5 l5
  obtain ⟨fs, A2, d2, zs, e6, o6, n6, m6, r6, v6⟩ := hf _ _ g6 l6
  have ht : a4.size ≤ 140737488355328 := by
    have := l4 a4.data.toList.length (by rw [hx4]; simp [DataW.weights])
    rw [Array.length_toList] at this
    exact Nat.le_trans this (by decide)
  simp only [List.cons.injEq, and_true] at e0 e1 e2 e3 e4 e5 e6
  subst e0 e1 e2 e3 e4 e5 e6
  refine ⟨.mk a0 a1 a2 a3 a4 ks fs, ?_, ?_⟩
  · rw [V.ok]
    simp [Lit.wf, IntKind.min, IntKind.max, IntKind.signed, IntKind.bits] at w0 w1 w2 w3
    exact ⟨by omega, by omega, by omega, by omega, ht, o5, o6, n5, n6⟩
  · rw [RdV]
    exact ⟨A1, d1, A2, d2, us, zs, rfl, r5, v5, m5, r6, v6, m6⟩

theorem down_vs {n : Nat} (hv : DownV enc w sp held n) : DownVs enc w sp held (n + 1) := by
  intro cs x h hl
  rcases DataW.trod_slice Try.underlying78 h with ⟨rfl, _⟩ | ⟨a, len, cap, elems, rest, m, hm, rfl, rfl, _, hlc, _, hel, hget, _, _⟩
  · exact ⟨.nil, none, 0, [], rfl, by rw [Vs.ok]; trivial, by simp [Vs.len], Nat.le_refl _, fun h => absurd rfl h, by rw [VsC]⟩
  obtain rfl : m = n := by omega
  obtain ⟨hw, hle⟩ := hl.elems Try.underlying78
  have hlen : len ≤ 140737488355328 := by
    have h1 := bytes80
    rw [List.length_map, List.length_map, hel] at hw
    have h2 : len * 1 ≤ (len + rest.length) * Try.prog.bytesOf 80 := Nat.mul_le_mul (by omega) h1
    have : reachBytes ≤ 140737488355328 := by decide
    omega
  have hone : ∀ i, i < len → ∃ vc y, w.cells? 0 (a.add (i * 7)) 7 = some vc ∧ DataW.trod enc Try.prog w 0 sp held m 80 vc = some y ∧ elems[i]? = some y := fun i hi => by
    have h1 := hget i hi
    rw [cells80, List.getElem?_eq_getElem (by omega)] at h1
    rw [Option.bind_eq_some_iff] at h1
    obtain ⟨vc, h2, h3⟩ := h1
    exact ⟨vc, _, h2, h3, List.getElem?_eq_getElem (by omega)⟩
  rcases Nat.eq_zero_or_pos len with h0 | hpos
  · subst h0
    exact ⟨.nil, some a, cap, [], rfl, by rw [Vs.ok]; trivial, by simp [Vs.len], by simp [Vs.len], fun h => absurd rfl h, by rw [VsC]⟩
  obtain ⟨vc0, _, hc0, _⟩ := hone 0 hpos
  obtain ⟨hl0, hcell0⟩ := cells_at hc0
  have hcs : w.cell? a = some (vc0[0]'(by omega)) := by
    have := hcell0 0 (by omega)
    rw [List.getElem?_eq_getElem (by omega)] at this
    simpa [Addr.add] using this
  obtain ⟨b, off, spot⟩ := a
  obtain rfl : spot = none := spot_none hcs
  have hb : b < w.heap.size := cell_lt hcs
  obtain ⟨vs, xs, e, ho, hc, hx⟩ := vs_build (w := w) (p := Old w) (b := b) (off := off) (len := len) (fun i hi => by
    obtain ⟨vc, y, h1, h2, h3⟩ := hone i hi
    obtain ⟨hl1, hcell1⟩ := cells_at h1
    obtain ⟨v, ho, hv⟩ := hv vc y h2 (hle y.1 (List.mem_map.2 ⟨y, List.mem_of_getElem? h3, rfl⟩))
    refine ⟨v, vc, ho, hv, fun j u hu => ?_⟩
    have hj : j < 7 := by
      have := (List.getElem?_eq_some_iff.1 hu).1
      omega
    have := hcell1 j hj
    rw [add_none, add_none, hu] at this
    exact this) len (Nat.le_refl _)
  refine ⟨vs, _, cap, xs, by rw [e], ho, by omega, by omega, fun _ => ⟨b, off, rfl, hb, fun j u hu => ?_⟩, hc⟩
  have := hx j u hu
  simpa using this

theorem down_fs {n : Nat} (hv : DownV enc w sp held n) : DownFs enc w sp held (n + 1) := by
  intro cs x h hl
  rcases DataW.trod_slice Try.underlying22 h with ⟨rfl, _⟩ | ⟨a, len, cap, elems, rest, m, hm, rfl, rfl, _, hlc, _, hel, hget, _, _⟩
  · exact ⟨.nil, none, 0, [], rfl, by rw [Fs.ok]; trivial, by simp [Fs.len], Nat.le_refl _, fun h => absurd rfl h, by rw [FsC]⟩
  obtain rfl : m = n := by omega
  obtain ⟨hw, hle⟩ := hl.elems Try.underlying22
  have hlen : len ≤ 140737488355328 := by
    have h1 := bytes82
    rw [List.length_map, List.length_map, hel] at hw
    have h2 : len * 1 ≤ (len + rest.length) * Try.prog.bytesOf 82 := Nat.mul_le_mul (by omega) h1
    have : reachBytes ≤ 140737488355328 := by decide
    omega
  have hone : ∀ i, i < len → ∃ vc y, w.cells? 0 (a.add (i * 8)) 8 = some vc ∧ DataW.trod enc Try.prog w 0 sp held m 82 vc = some y ∧ elems[i]? = some y := fun i hi => by
    have h1 := hget i hi
    rw [cells82, List.getElem?_eq_getElem (by omega)] at h1
    rw [Option.bind_eq_some_iff] at h1
    obtain ⟨vc, h2, h3⟩ := h1
    exact ⟨vc, _, h2, h3, List.getElem?_eq_getElem (by omega)⟩
  rcases Nat.eq_zero_or_pos len with h0 | hpos
  · subst h0
    exact ⟨.nil, some a, cap, [], rfl, by rw [Fs.ok]; trivial, by simp [Fs.len], by simp [Fs.len], fun h => absurd rfl h, by rw [FsC]⟩
  obtain ⟨vc0, _, hc0, _⟩ := hone 0 hpos
  obtain ⟨hl0, hcell0⟩ := cells_at hc0
  have hcs : w.cell? a = some (vc0[0]'(by omega)) := by
    have := hcell0 0 (by omega)
    rw [List.getElem?_eq_getElem (by omega)] at this
    simpa [Addr.add] using this
  obtain ⟨b, off, spot⟩ := a
  obtain rfl : spot = none := spot_none hcs
  have hb : b < w.heap.size := cell_lt hcs
  obtain ⟨fs, xs, e, ho, hc, hx⟩ := fs_build (w := w) (p := Old w) (b := b) (off := off) (len := len) (fun i hi => by
    obtain ⟨vc, y, h1, h2, h3⟩ := hone i hi
    obtain ⟨hl1, hcell1⟩ := cells_at h1
    have hly := hle y.1 (List.mem_map.2 ⟨y, List.mem_of_getElem? h3, rfl⟩)
    obtain ⟨ys, q, hq, rfl, hlen2, hyl, hget2⟩ := DataW.trod_struct Try.underlying82 h2
    obtain ⟨c0, cr, rfl⟩ := list1 vc (by omega)
    obtain ⟨y0, y1, rfl⟩ := list2 ys hyl
    have g0 := hget2 0 ({ name := "Name", type := 9, offset := 0, embedded := false, tag := "", pkgPath := "", byteOffset := 0 } : Field) rfl
    have g1 := hget2 1 ({ name := "Value", type := 80, offset := 1, embedded := false, tag := "", pkgPath := "", byteOffset := 16 } : Field) rfl
    obtain ⟨k5, k2, k77, k3, k9, k78, k22⟩ := cells1
    have hcr : cr.length = 7 := by simpa using hl1
    simp only [k9, cells80, List.drop_zero, List.drop_succ_cons, List.take_succ_cons, List.take_zero, List.getElem?_cons_zero, List.getElem?_cons_succ] at g0 g1
    rw [List.take_of_length_le (by omega)] at g1
    obtain ⟨name, e0, hx0, _⟩ := DataW.trod_string Try.underlying9 g0
    simp only [List.cons.injEq, and_true] at e0
    subst e0
    have l0 := hly.part Try.underlying82 (j := 0) rfl (d := y0.1) rfl
    have l1 := hly.part Try.underlying82 (j := 1) rfl (d := y1.1) rfl
    have hn : name.size ≤ 140737488355328 := by
      have := l0 name.data.toList.length (by rw [hx0]; simp [DataW.weights])
      rw [Array.length_toList] at this
      exact Nat.le_trans this (by decide)
    have g1' := DataW.trod_succ _ _ _ _ g1
    rw [← hq] at g1'
    obtain ⟨v, ho, hv⟩ := hv cr y1 g1' l1
    refine ⟨name, v, cr, hn, ho, hv, fun j u hu => ?_⟩
    have hj : j < 8 := by
      have := (List.getElem?_eq_some_iff.1 hu).1
      omega
    have := hcell1 j hj
    rw [add_none, add_none, hu] at this
    exact this) len (Nat.le_refl _)
  refine ⟨fs, _, cap, xs, by rw [e], ho, by omega, by omega, fun _ => ⟨b, off, rfl, hb, fun j u hu => ?_⟩, hc⟩
  have := hx j u hu
  simpa using this

theorem down_all : ∀ n : Nat, DownV enc w sp held n ∧ DownVs enc w sp held n ∧ DownFs enc w sp held n
  | 0 => ⟨fun cs x h => by simp [DataW.trod] at h, fun cs x h => by simp [DataW.trod] at h, fun cs x h => by simp [DataW.trod] at h⟩
  | n + 1 => by
    obtain ⟨h1, h2, h3⟩ := down_all n
    exact ⟨down_v h2 h3, down_vs h1, down_fs h1⟩

set_option maxRecDepth 100000 in
/-- an argument that is a slice of fields -/
theorem open_fields {v : Value} {d : DataW H} {ps : List MemPlace} {r : Reach} {b0 : Nat} (hval : Value.okWide Try.prog w r b0 22 v) (h : DataW.Trod enc Try.prog w 0 sp held 22 v d ps) (hl : Light d 22) :
    ∃ fs A c xs, v = .slice A (Fs.len fs) c ∧ fs.ok ∧ fs.len ≤ 140737488355328 ∧ fs.len ≤ c ∧ Rd w (Old w) A xs ∧ FsC w (Old w) fs xs := by
  obtain ⟨n, h⟩ := h
  obtain ⟨fs, A, c, xs, e, hr⟩ := (down_all n).2.2 _ _ h hl
  refine ⟨fs, A, c, xs, ?_, hr⟩
  cases v with
  | agg cs => simp [Value.okWide, Try.underlying22, Cell.okWide, Cell.ok] at hval
  | slice => simpa [Value.cells] using e
  | _ => simp [Value.cells] at e

end

end Go.Proofs.Ytkcdakohmfodjaa
