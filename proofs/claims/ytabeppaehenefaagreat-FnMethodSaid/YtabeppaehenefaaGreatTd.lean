/-
  What a slice of fields that came in reads as.
  FnMethod: what a method that came in reads as.
-/
import Derived.Test.YtabeppaehenefaaGreatRead
import Derived.Test.YtabeppaehenefaaGreatProg
import Derived.ChangeArms
import Derived.SizedLaws
import Derived.KernelRfl
import Derived.Test.YtabeppaehenefaaGreatMa
namespace Go.Proofs.YtabeppaehenefaaGreat
open Go.RowKit

theorem spot_none {w : World} {a : Addr} {v : Value} (h : w.cell? a = some v) : a.spot = none := by
  unfold World.cell? at h
  split at h
  · split at h
    · cases h
    · rename_i hs; simpa using hs
  · cases h
theorem cell_lt {w : World} {a : Addr} {v : Value} (h : w.cell? a = some v) : a.block < w.heap.size := by
  unfold World.cell? at h
  split at h
  · rename_i hb; exact (Array.getElem?_eq_some_iff.1 hb).1
  · cases h

theorem cells_at {w : World} {base : Nat} {a : Addr} {n : Nat} {cs : List Value} (h : w.cells? base a n = some cs) : cs.length = n ∧ ∀ j, j < n → w.cell? (a.add j) = cs[j]? := by
  unfold World.cells? at h
  split at h
  · refine ⟨by simpa using mapM_some_length h, fun j hj => mapM_some_get h j j (by simp [hj])⟩
  · cases h

theorem add_none (b off n : Nat) : (⟨b, off, none⟩ : Addr).add n = ⟨b, off + n, none⟩ := by unfold Addr.add; split <;> simp_all

section
variable {H : Type} {enc : TypeId × Value → H} {w : World} {sp : Nat → Bool} {held : Bool}

theorem trod_float {P : Program} {base fuel : Nat} {t : TypeId} {cs : List Value} {x : DataW H × List MemPlace} {k : FloatKind} (ht : P.underlying t = some (.float k)) (h : DataW.trod enc P w base sp held fuel t cs = some x) : ∃ b, cs = [.float k b] ∧ (Lit.float k b).wf = true := by
  cases fuel with
  | zero => simp [DataW.trod] at h
  | succ n =>
    unfold DataW.trod at h
    rw [ht] at h
    split at h <;> simp_all

/-- nothing in it is larger than what is read -/
def Light (d : DataW H) (t : TypeId) : Prop := ∀ n ∈ d.weights Tryz.prog t, n ≤ reachBytes

theorem Light.part {t : TypeId} {fs : Array Field} (ht : Tryz.prog.underlying t = some (.struct fs)) {parts : List (DataW H)} (h : Light (.agg parts) t) {j : Nat} {f : Field} {d : DataW H} (hf : fs[j]? = some f) (hd : parts[j]? = some d) : Light d f.type := by
  intro n hn
  refine h n ?_
  have : n ∈ DataW.weightsEach Tryz.prog (fs.toList.map (·.type)) parts := DataW.weights_mem_each (j := j) (by simp [hf]) hd n hn
  simpa [DataW.weights, ht] using this

theorem weights_all {e : TypeId} : ∀ {l : List (DataW H)} {d : DataW H}, d ∈ l → ∀ n ∈ d.weights Tryz.prog e, n ∈ DataW.weightsAll Tryz.prog e l
  | x :: r, d, hd, n, hn => by
    rw [DataW.weightsAll, List.mem_append]
    rcases List.mem_cons.1 hd with rfl | h
    · exact .inl hn
    · exact .inr (weights_all h n hn)

theorem Light.elems {t e : TypeId} (ht : Tryz.prog.underlying t = some (.slice e)) {elems rest : List (DataW H)} (h : Light (.slice elems rest) t) : (elems.length + rest.length) * Tryz.prog.bytesOf e ≤ reachBytes ∧ ∀ d ∈ elems, Light d e := by
  refine ⟨h _ (by simp [DataW.weights, ht]), fun d hd n hn => h n ?_⟩
  have := weights_all hd n hn
  simp [DataW.weights, ht, this]

theorem vs_build {p : Nat → Prop} {b off len : Nat} (h : ∀ i, i < len → ∃ v vc, V.ok v ∧ RdV w p v vc ∧ ∀ j u, vc[j]? = some u → w.cell? ⟨b, off + i * 7 + j, none⟩ = some u) :
    ∀ k, k ≤ len → ∃ vs xs, Vs.len vs = k ∧ vs.ok ∧ VsC w p vs xs ∧ ∀ j u, xs[j]? = some u → w.cell? ⟨b, off + (len - k) * 7 + j, none⟩ = some u
  | 0, _ => ⟨.nil, [], rfl, by rw [Vs.ok]; trivial, by rw [VsC], fun j u hu => by simp at hu⟩
  | k + 1, hk => by
    obtain ⟨vs, xs, e, ho, hc, hx⟩ := vs_build h k (by omega)
    obtain ⟨v, vc, ho2, hv, hx2⟩ := h (len - (k + 1)) (by omega)
    refine ⟨.cons v vs, vc ++ xs, by rw [Vs.len, e], by rw [Vs.ok]; exact ⟨ho2, ho⟩, by rw [VsC]; exact ⟨vc, xs, rfl, hv, hc⟩, fun j u hu => ?_⟩
    have hl := hv.len
    rcases Nat.lt_or_ge j 7 with hj | hj
    · rw [List.getElem?_append_left (by omega)] at hu
      exact hx2 j u hu
    · rw [List.getElem?_append_right (by omega), hl] at hu
      have := hx (j - 7) u hu
      rwa [show off + (len - k) * 7 + (j - 7) = off + (len - (k + 1)) * 7 + j by omega] at this
theorem fs_build {p : Nat → Prop} {b off len : Nat} (h : ∀ i, i < len → ∃ name v vc, ByteArray.size name ≤ 140737488355328 ∧ V.ok v ∧ RdV w p v vc ∧ ∀ j u, (Value.string name :: vc)[j]? = some u → w.cell? ⟨b, off + i * 8 + j, none⟩ = some u) :
    ∀ k, k ≤ len → ∃ fs xs, Fs.len fs = k ∧ fs.ok ∧ FsC w p fs xs ∧ ∀ j u, xs[j]? = some u → w.cell? ⟨b, off + (len - k) * 8 + j, none⟩ = some u
  | 0, _ => ⟨.nil, [], rfl, by rw [Fs.ok]; trivial, by rw [FsC], fun j u hu => by simp at hu⟩
  | k + 1, hk => by
    obtain ⟨fs, xs, e, ho, hc, hx⟩ := fs_build h k (by omega)
    obtain ⟨name, v, vc, hn, ho2, hv, hx2⟩ := h (len - (k + 1)) (by omega)
    refine ⟨.cons name v fs, .string name :: (vc ++ xs), by rw [Fs.len, e], by rw [Fs.ok]; exact ⟨hn, ho2, ho⟩, by rw [FsC]; exact ⟨vc, xs, rfl, hv, hc⟩, fun j u hu => ?_⟩
    have hl := hv.len
    rcases Nat.lt_or_ge j 8 with hj | hj
    · refine hx2 j u ?_
      rw [← List.cons_append, List.getElem?_append_left (by simp; omega)] at hu
      exact hu
    · rw [← List.cons_append, List.getElem?_append_right (by simp; omega)] at hu
      simp only [List.length_cons, hl] at hu
      have := hx (j - 8) u hu
      rwa [show off + (len - k) * 8 + (j - 8) = off + (len - (k + 1)) * 8 + j by omega] at this

abbrev Old (w : World) : Nat → Prop := fun g => g < w.heap.size

def DownV (enc : TypeId × Value → H) (w : World) (sp : Nat → Bool) (held : Bool) (n : Nat) : Prop := ∀ cs x, DataW.trod enc Tryz.prog w 0 sp held n 92 cs = some x → Light x.1 92 → ∃ v, V.ok v ∧ RdV w (Old w) v cs
def DownVs (enc : TypeId × Value → H) (w : World) (sp : Nat → Bool) (held : Bool) (n : Nat) : Prop := ∀ cs x, DataW.trod enc Tryz.prog w 0 sp held n 90 cs = some x → Light x.1 90 →
  ∃ vs A c xs, cs = [.slice A (Vs.len vs) c] ∧ vs.ok ∧ vs.len ≤ 140737488355328 ∧ vs.len ≤ c ∧ Rd w (Old w) A xs ∧ VsC w (Old w) vs xs
def DownFs (enc : TypeId × Value → H) (w : World) (sp : Nat → Bool) (held : Bool) (n : Nat) : Prop := ∀ cs x, DataW.trod enc Tryz.prog w 0 sp held n 39 cs = some x → Light x.1 39 →
  ∃ fs A c xs, cs = [.slice A (Fs.len fs) c] ∧ fs.ok ∧ fs.len ≤ 140737488355328 ∧ fs.len ≤ c ∧ Rd w (Old w) A xs ∧ FsC w (Old w) fs xs

theorem cells80 : Tryz.prog.cellsOf 92 = 7 := by kernel_rfl
theorem cells82 : Tryz.prog.cellsOf 94 = 8 := by kernel_rfl
theorem cells1 : Tryz.prog.cellsOf 5 = 1 ∧ Tryz.prog.cellsOf 2 = 1 ∧ Tryz.prog.cellsOf 89 = 1 ∧ Tryz.prog.cellsOf 3 = 1 ∧ Tryz.prog.cellsOf 9 = 1 ∧ Tryz.prog.cellsOf 90 = 1 ∧ Tryz.prog.cellsOf 39 = 1 := by refine ⟨?_, ?_, ?_, ?_, ?_, ?_, ?_⟩ <;> kernel_rfl
theorem bytes80 : 1 ≤ Tryz.prog.bytesOf 92 := by decide +kernel
theorem bytes82 : 1 ≤ Tryz.prog.bytesOf 94 := by decide +kernel

theorem list7 {α : Type} (l : List α) (h : l.length = 7) : ∃ a b c d e f g, l = [a, b, c, d, e, f, g] := by
  rcases l with _ | ⟨a, _ | ⟨b, _ | ⟨c, _ | ⟨d, _ | ⟨e, _ | ⟨f, _ | ⟨g, _ | ⟨x, t⟩⟩⟩⟩⟩⟩⟩⟩
  all_goals first | (exfalso; simp at h; done) | exact ⟨a, b, c, d, e, f, g, rfl⟩
theorem list2 {α : Type} (l : List α) (h : l.length = 2) : ∃ a b, l = [a, b] := by
  rcases l with _ | ⟨a, _ | ⟨b, _ | ⟨x, t⟩⟩⟩
  all_goals first | (exfalso; simp at h; done) | exact ⟨a, b, rfl⟩
theorem list1 {α : Type} (l : List α) (h : 0 < l.length) : ∃ a t, l = a :: t := by
  rcases l with _ | ⟨a, t⟩
  · simp at h
  · exact ⟨a, t, rfl⟩

theorem down_v {n : Nat} (hv : DownVs enc w sp held n) (hf : DownFs enc w sp held n) : DownV enc w sp held (n + 1) := by
  intro cs x h hl
  obtain ⟨xs, m, hm, rfl, hlen, hxl, hget⟩ := DataW.trod_struct Tryz.underlying92 h
  obtain rfl : m = n := by omega
  rw [cells80] at hlen
  obtain ⟨c0, c1, c2, c3, c4, c5, c6, rfl⟩ := list7 cs hlen
  obtain ⟨x0, x1, x2, x3, x4, x5, x6, rfl⟩ := list7 xs hxl
  have g0 := hget 0 ({ name := "Kind", type := 5, offset := 0, embedded := false, tag := "", pkgPath := "", byteOffset := 0 } : Field) rfl
  have g1 := hget 1 ({ name := "N", type := 2, offset := 1, embedded := false, tag := "", pkgPath := "", byteOffset := 8 } : Field) rfl
  have g2 := hget 2 ({ name := "F", type := 89, offset := 2, embedded := false, tag := "", pkgPath := "", byteOffset := 16 } : Field) rfl
  have g3 := hget 3 ({ name := "Scale", type := 3, offset := 3, embedded := false, tag := "", pkgPath := "", byteOffset := 24 } : Field) rfl
  have g4 := hget 4 ({ name := "Text", type := 9, offset := 4, embedded := false, tag := "", pkgPath := "", byteOffset := 32 } : Field) rfl
  have g5 := hget 5 ({ name := "Kids", type := 90, offset := 5, embedded := false, tag := "", pkgPath := "", byteOffset := 48 } : Field) rfl
  have g6 := hget 6 ({ name := "Fields", type := 39, offset := 6, embedded := false, tag := "", pkgPath := "", byteOffset := 72 } : Field) rfl
  obtain ⟨k5, k2, k77, k3, k9, k78, k22⟩ := cells1
  simp only [k5, k2, k77, k3, k9, k78, k22, List.drop_zero, List.drop_succ_cons, List.take_succ_cons, List.take_zero, List.getElem?_cons_zero, List.getElem?_cons_succ] at g0 g1 g2 g3 g4 g5 g6
  obtain ⟨a0, e0, _, w0⟩ := DataW.trod_int Tryz.underlying5 g0
  obtain ⟨a1, e1, _, w1⟩ := DataW.trod_int Tryz.underlying2 g1
  obtain ⟨a2, e2, w2⟩ := trod_float Tryz.underlying89 g2
  obtain ⟨a3, e3, _, w3⟩ := DataW.trod_int Tryz.underlying3 g3
  obtain ⟨a4, e4, hx4, w4⟩ := DataW.trod_string Tryz.underlying9 g4
  have l4 := hl.part Tryz.underlying92 (j := 4) rfl (d := x4.1) rfl
  have l5 := hl.part Tryz.underlying92 (j := 5) rfl (d := x5.1) rfl
  have l6 := hl.part Tryz.underlying92 (j := 6) rfl (d := x6.1) rfl
  obtain ⟨ks, A1, d1, us, e5, o5, n5, m5, r5, v5⟩ := hv _ _ g5 l5
  obtain ⟨fs, A2, d2, zs, e6, o6, n6, m6, r6, v6⟩ := hf _ _ g6 l6
  have ht : a4.size ≤ 140737488355328 := by
    have := l4 a4.data.toList.length (by rw [hx4]; simp [DataW.weights])
    rw [Array.length_toList] at this
    exact Nat.le_trans this (by decide)
  simp only [List.cons.injEq, and_true] at e0 e1 e2 e3 e4 e5 e6
  subst e0 e1 e2 e3 e4 e5 e6
  refine ⟨.mk a0 a1 a2 a3 a4 ks fs, ?_, ?_⟩
  · rw [V.ok]
    simp [Lit.wf, IntKind.min, IntKind.max, IntKind.signed, IntKind.bits] at w0 w1 w2 w3
    exact ⟨by omega, by omega, by omega, by omega, ht, o5, o6, n5, n6⟩
  · rw [RdV]
    exact ⟨A1, d1, A2, d2, us, zs, rfl, r5, v5, m5, r6, v6, m6⟩

theorem down_vs {n : Nat} (hv : DownV enc w sp held n) : DownVs enc w sp held (n + 1) := by
  intro cs x h hl
  rcases DataW.trod_slice Tryz.underlying90 h with ⟨rfl, _⟩ | ⟨a, len, cap, elems, rest, m, hm, rfl, rfl, _, hlc, _, hel, hget, _, _⟩
  · exact ⟨.nil, none, 0, [], rfl, by rw [Vs.ok]; trivial, by simp [Vs.len], Nat.le_refl _, fun h => absurd rfl h, by rw [VsC]⟩
  obtain rfl : m = n := by omega
  obtain ⟨hw, hle⟩ := hl.elems Tryz.underlying90
  have hlen : len ≤ 140737488355328 := by
    have h1 := bytes80
    rw [List.length_map, List.length_map, hel] at hw
    have h2 : len * 1 ≤ (len + rest.length) * Tryz.prog.bytesOf 92 := Nat.mul_le_mul (by omega) h1
    have : reachBytes ≤ 140737488355328 := by decide
    omega
  have hone : ∀ i, i < len → ∃ vc y, w.cells? 0 (a.add (i * 7)) 7 = some vc ∧ DataW.trod enc Tryz.prog w 0 sp held m 92 vc = some y ∧ elems[i]? = some y := fun i hi => by
    have h1 := hget i hi
    rw [cells80, List.getElem?_eq_getElem (by omega)] at h1
    rw [Option.bind_eq_some_iff] at h1
    obtain ⟨vc, h2, h3⟩ := h1
    exact ⟨vc, _, h2, h3, List.getElem?_eq_getElem (by omega)⟩
  rcases Nat.eq_zero_or_pos len with h0 | hpos
  · subst h0
    exact ⟨.nil, some a, cap, [], rfl, by rw [Vs.ok]; trivial, by simp [Vs.len], by simp [Vs.len], fun h => absurd rfl h, by rw [VsC]⟩
  obtain ⟨vc0, _, hc0, _⟩ := hone 0 hpos
  obtain ⟨hl0, hcell0⟩ := cells_at hc0
  have hcs : w.cell? a = some (vc0[0]'(by omega)) := by
    have := hcell0 0 (by omega)
    rw [List.getElem?_eq_getElem (by omega)] at this
    simpa [Addr.add] using this
  obtain ⟨b, off, spot⟩ := a
  obtain rfl : spot = none := spot_none hcs
  have hb : b < w.heap.size := cell_lt hcs
  obtain ⟨vs, xs, e, ho, hc, hx⟩ := vs_build (w := w) (p := Old w) (b := b) (off := off) (len := len) (fun i hi => by
    obtain ⟨vc, y, h1, h2, h3⟩ := hone i hi
    obtain ⟨hl1, hcell1⟩ := cells_at h1
    obtain ⟨v, ho, hv⟩ := hv vc y h2 (hle y.1 (List.mem_map.2 ⟨y, List.mem_of_getElem? h3, rfl⟩))
    refine ⟨v, vc, ho, hv, fun j u hu => ?_⟩
    have hj : j < 7 := by
      have := (List.getElem?_eq_some_iff.1 hu).1
      omega
    have := hcell1 j hj
    rw [add_none, add_none, hu] at this
    exact this) len (Nat.le_refl _)
  refine ⟨vs, _, cap, xs, by rw [e], ho, by omega, by omega, fun _ => ⟨b, off, rfl, hb, fun j u hu => ?_⟩, hc⟩
  have := hx j u hu
  simpa using this

theorem down_fs {n : Nat} (hv : DownV enc w sp held n) : DownFs enc w sp held (n + 1) := by
  intro cs x h hl
  rcases DataW.trod_slice Tryz.underlying39 h with ⟨rfl, _⟩ | ⟨a, len, cap, elems, rest, m, hm, rfl, rfl, _, hlc, _, hel, hget, _, _⟩
  · exact ⟨.nil, none, 0, [], rfl, by rw [Fs.ok]; trivial, by simp [Fs.len], Nat.le_refl _, fun h => absurd rfl h, by rw [FsC]⟩
  obtain rfl : m = n := by omega
  obtain ⟨hw, hle⟩ := hl.elems Tryz.underlying39
  have hlen : len ≤ 140737488355328 := by
    have h1 := bytes82
    rw [List.length_map, List.length_map, hel] at hw
    have h2 : len * 1 ≤ (len + rest.length) * Tryz.prog.bytesOf 94 := Nat.mul_le_mul (by omega) h1
    have : reachBytes ≤ 140737488355328 := by decide
    omega
  have hone : ∀ i, i < len → ∃ vc y, w.cells? 0 (a.add (i * 8)) 8 = some vc ∧ DataW.trod enc Tryz.prog w 0 sp held m 94 vc = some y ∧ elems[i]? = some y := fun i hi => by
    have h1 := hget i hi
    rw [cells82, List.getElem?_eq_getElem (by omega)] at h1
    rw [Option.bind_eq_some_iff] at h1
    obtain ⟨vc, h2, h3⟩ := h1
    exact ⟨vc, _, h2, h3, List.getElem?_eq_getElem (by omega)⟩
  rcases Nat.eq_zero_or_pos len with h0 | hpos
  · subst h0
    exact ⟨.nil, some a, cap, [], rfl, by rw [Fs.ok]; trivial, by simp [Fs.len], by simp [Fs.len], fun h => absurd rfl h, by rw [FsC]⟩
  obtain ⟨vc0, _, hc0, _⟩ := hone 0 hpos
  obtain ⟨hl0, hcell0⟩ := cells_at hc0
  have hcs : w.cell? a = some (vc0[0]'(by omega)) := by
    have := hcell0 0 (by omega)
    rw [List.getElem?_eq_getElem (by omega)] at this
    simpa [Addr.add] using this
  obtain ⟨b, off, spot⟩ := a
  obtain rfl : spot = none := spot_none hcs
  have hb : b < w.heap.size := cell_lt hcs
  obtain ⟨fs, xs, e, ho, hc, hx⟩ := fs_build (w := w) (p := Old w) (b := b) (off := off) (len := len) (fun i hi => by
    obtain ⟨vc, y, h1, h2, h3⟩ := hone i hi
    obtain ⟨hl1, hcell1⟩ := cells_at h1
    have hly := hle y.1 (List.mem_map.2 ⟨y, List.mem_of_getElem? h3, rfl⟩)
    obtain ⟨ys, q, hq, rfl, hlen2, hyl, hget2⟩ := DataW.trod_struct Tryz.underlying94 h2
    obtain ⟨c0, cr, rfl⟩ := list1 vc (by omega)
    obtain ⟨y0, y1, rfl⟩ := list2 ys hyl
    have g0 := hget2 0 ({ name := "Name", type := 9, offset := 0, embedded := false, tag := "", pkgPath := "", byteOffset := 0 } : Field) rfl
    have g1 := hget2 1 ({ name := "Value", type := 92, offset := 1, embedded := false, tag := "", pkgPath := "", byteOffset := 16 } : Field) rfl
    obtain ⟨k5, k2, k77, k3, k9, k78, k22⟩ := cells1
    have hcr : cr.length = 7 := by simpa using hl1
    simp only [k9, cells80, List.drop_zero, List.drop_succ_cons, List.take_succ_cons, List.take_zero, List.getElem?_cons_zero, List.getElem?_cons_succ] at g0 g1
    rw [List.take_of_length_le (by omega)] at g1
    obtain ⟨name, e0, hx0, _⟩ := DataW.trod_string Tryz.underlying9 g0
    simp only [List.cons.injEq, and_true] at e0
    subst e0
    have l0 := hly.part Tryz.underlying94 (j := 0) rfl (d := y0.1) rfl
    have l1 := hly.part Tryz.underlying94 (j := 1) rfl (d := y1.1) rfl
    have hn : name.size ≤ 140737488355328 := by
      have := l0 name.data.toList.length (by rw [hx0]; simp [DataW.weights])
      rw [Array.length_toList] at this
      exact Nat.le_trans this (by decide)
    have g1' := DataW.trod_succ _ _ _ _ g1
    rw [← hq] at g1'
    obtain ⟨v, ho, hv⟩ := hv cr y1 g1' l1
    refine ⟨name, v, cr, hn, ho, hv, fun j u hu => ?_⟩
    have hj : j < 8 := by
      have := (List.getElem?_eq_some_iff.1 hu).1
      omega
    have := hcell1 j hj
    rw [add_none, add_none, hu] at this
    exact this) len (Nat.le_refl _)
  refine ⟨fs, _, cap, xs, by rw [e], ho, by omega, by omega, fun _ => ⟨b, off, rfl, hb, fun j u hu => ?_⟩, hc⟩
  have := hx j u hu
  simpa using this

theorem down_all : ∀ n : Nat, DownV enc w sp held n ∧ DownVs enc w sp held n ∧ DownFs enc w sp held n
  | 0 => ⟨fun cs x h => by simp [DataW.trod] at h, fun cs x h => by simp [DataW.trod] at h, fun cs x h => by simp [DataW.trod] at h⟩
  | n + 1 => by
    obtain ⟨h1, h2, h3⟩ := down_all n
    exact ⟨down_v h2 h3, down_vs h1, down_fs h1⟩

set_option maxRecDepth 100000 in
/-- an argument that is a slice of fields -/
theorem open_fields {v : Value} {d : DataW H} {ps : List MemPlace} {r : Reach} {b0 : Nat} (hval : Value.okWide Tryz.prog w r b0 39 v) (h : DataW.Trod enc Tryz.prog w 0 sp held 39 v d ps) (hl : Light d 39) :
    ∃ fs A c xs, v = .slice A (Fs.len fs) c ∧ fs.ok ∧ fs.len ≤ 140737488355328 ∧ fs.len ≤ c ∧ Rd w (Old w) A xs ∧ FsC w (Old w) fs xs := by
  obtain ⟨n, h⟩ := h
  obtain ⟨fs, A, c, xs, e, hr⟩ := (down_all n).2.2 _ _ h hl
  refine ⟨fs, A, c, xs, ?_, hr⟩
  cases v with
  | agg cs => simp [Value.okWide, Tryz.underlying39, Cell.okWide, Cell.ok] at hval
  | slice => simpa [Value.cells] using e
  | _ => simp [Value.cells] at e

end

end Go.Proofs.YtabeppaehenefaaGreat

namespace Go.Proofs.YtabeppaehenefaaGreat
open Go.RowKit

section
variable {H : Type} {enc : TypeId × Value → H} {w : World} {sp : Nat → Bool} {held : Bool}

theorem ags_build {p : Nat → Prop} {b off len : Nat} (h : ∀ i, i < len → ∃ a vc, Ag.ok a ∧ AgC w p a vc ∧ ∀ j u, vc[j]? = some u → w.cell? ⟨b, off + i * 4 + j, none⟩ = some u) :
    ∀ k, k ≤ len → ∃ gs xs, List.length gs = k ∧ (∀ a ∈ gs, Ag.ok a) ∧ AgsC w p gs xs ∧ ∀ j u, xs[j]? = some u → w.cell? ⟨b, off + (len - k) * 4 + j, none⟩ = some u
  | 0, _ => ⟨[], [], rfl, fun a h => (by cases h), by rw [AgsC], fun j u hu => by simp at hu⟩
  | k + 1, hk => by
    obtain ⟨gs, xs, e, ho, hc, hx⟩ := ags_build h k (by omega)
    obtain ⟨a, vc, ho2, hv, hx2⟩ := h (len - (k + 1)) (by omega)
    refine ⟨a :: gs, vc ++ xs, by rw [List.length_cons, e], fun x hm => ?_, by rw [AgsC]; exact ⟨vc, xs, rfl, hv, hc⟩, fun j u hu => ?_⟩
    · rcases List.mem_cons.1 hm with rfl | hm
      · exact ho2
      · exact ho x hm
    have hl : vc.length = 4 := by obtain ⟨A, c, ys, rfl, _⟩ := hv; rfl
    rcases Nat.lt_or_ge j 4 with hj | hj
    · rw [List.getElem?_append_left (by omega)] at hu
      exact hx2 j u hu
    · rw [List.getElem?_append_right (by omega), hl] at hu
      have := hx (j - 4) u hu
      rwa [show off + (len - k) * 4 + (j - 4) = off + (len - (k + 1)) * 4 + j by omega] at this

theorem cells41 : Tryz.prog.cellsOf 41 = 4 := by kernel_rfl
theorem cells24 : Tryz.prog.cellsOf 24 = 3 := by kernel_rfl
theorem cells2 : Tryz.prog.cellsOf 3 = 1 ∧ Tryz.prog.cellsOf 38 = 1 ∧ Tryz.prog.cellsOf 9 = 1 ∧ Tryz.prog.cellsOf 39 = 1 ∧ Tryz.prog.cellsOf 22 = 1 := by refine ⟨?_, ?_, ?_, ?_, ?_⟩ <;> kernel_rfl
theorem bytes41 : 1 ≤ Tryz.prog.bytesOf 41 := by decide +kernel
theorem list4 {α : Type} (l : List α) (h : l.length = 4) : ∃ a b c d, l = [a, b, c, d] := by
  rcases l with _ | ⟨a, _ | ⟨b, _ | ⟨c, _ | ⟨d, _ | ⟨x, t⟩⟩⟩⟩⟩
  all_goals first | (exfalso; simp at h; done) | exact ⟨a, b, c, d, rfl⟩
theorem list3 {α : Type} (l : List α) (h : l.length = 3) : ∃ a b c, l = [a, b, c] := by
  rcases l with _ | ⟨a, _ | ⟨b, _ | ⟨c, _ | ⟨x, t⟩⟩⟩⟩
  all_goals first | (exfalso; simp at h; done) | exact ⟨a, b, c, rfl⟩

theorem down_arg {n : Nat} {cs : List Value} {x : DataW H × List MemPlace} (h : DataW.trod enc Tryz.prog w 0 sp held (n + 1) 41 cs = some x) (hl : Light x.1 41) : ∃ a, Ag.ok a ∧ AgC w (Old w) a cs := by
  obtain ⟨xs, m, hm, rfl, hlen, hxl, hget⟩ := DataW.trod_struct Tryz.underlying41 h
  obtain rfl : m = n := by omega
  rw [cells41] at hlen
  obtain ⟨c0, c1, c2, c3, rfl⟩ := list4 cs hlen
  obtain ⟨x0, x1, x2, x3, rfl⟩ := list4 xs hxl
  have g0 := hget 0 ({ name := "Kind", type := 3, offset := 0, embedded := false, tag := "", pkgPath := "", byteOffset := 0 } : Field) rfl
  have g1 := hget 1 ({ name := "N", type := 38, offset := 1, embedded := false, tag := "", pkgPath := "", byteOffset := 8 } : Field) rfl
  have g2 := hget 2 ({ name := "Text", type := 9, offset := 2, embedded := false, tag := "", pkgPath := "", byteOffset := 16 } : Field) rfl
  have g3 := hget 3 ({ name := "Table", type := 39, offset := 3, embedded := false, tag := "", pkgPath := "", byteOffset := 32 } : Field) rfl
  obtain ⟨k3, k38, k9, k39, _⟩ := cells2
  simp only [k3, k38, k9, k39, List.drop_zero, List.drop_succ_cons, List.take_succ_cons, List.take_zero, List.getElem?_cons_zero, List.getElem?_cons_succ] at g0 g1 g2 g3
  obtain ⟨a0, e0, _, w0⟩ := DataW.trod_int Tryz.underlying3 g0
  obtain ⟨a1, e1, _, w1⟩ := DataW.trod_int Tryz.underlying38 g1
  obtain ⟨a2, e2, hx2, w2⟩ := DataW.trod_string Tryz.underlying9 g2
  have l2 := hl.part Tryz.underlying41 (j := 2) rfl (d := x2.1) rfl
  have l3 := hl.part Tryz.underlying41 (j := 3) rfl (d := x3.1) rfl
  obtain ⟨fs, A2, d2, zs, e3, o3, n3, m3, r3, v3⟩ := (down_all m).2.2 _ _ g3 l3
  have ht : a2.size ≤ 140737488355328 := by
    have := l2 a2.data.toList.length (by rw [hx2]; simp [DataW.weights])
    rw [Array.length_toList] at this
    exact Nat.le_trans this (by decide)
  simp only [List.cons.injEq, and_true] at e0 e1 e2 e3
  subst e0 e1 e2 e3
  refine ⟨⟨a0, a1, a2, fs⟩, ?_, A2, d2, zs, rfl, r3, v3, m3⟩
  simp [Lit.wf, IntKind.min, IntKind.max, IntKind.signed, IntKind.bits] at w0 w1
  exact ⟨by simp only; omega, by simp only; omega, ht, o3, n3⟩

theorem down_args {n : Nat} {cs : List Value} {x : DataW H × List MemPlace} (h : DataW.trod enc Tryz.prog w 0 sp held (n + 1) 22 cs = some x) (hl : Light x.1 22) :
    ∃ gs A c xs, cs = [.slice A (List.length gs) c] ∧ (∀ a ∈ gs, Ag.ok a) ∧ gs.length ≤ c ∧ Rd w (Old w) A xs ∧ AgsC w (Old w) gs xs := by
  rcases DataW.trod_slice Tryz.underlying22 h with ⟨rfl, _⟩ | ⟨a, len, cap, elems, rest, m, hm, rfl, rfl, _, hlc, _, hel, hget, _, _⟩
  · exact ⟨[], none, 0, [], rfl, fun a h => (by cases h), Nat.le_refl _, fun h => absurd rfl h, by rw [AgsC]⟩
  obtain rfl : m = n := by omega
  obtain ⟨hw, hle⟩ := hl.elems Tryz.underlying22
  have hone : ∀ i, i < len → ∃ vc y, w.cells? 0 (a.add (i * 4)) 4 = some vc ∧ DataW.trod enc Tryz.prog w 0 sp held m 41 vc = some y ∧ elems[i]? = some y := fun i hi => by
    have h1 := hget i hi
    rw [cells41, List.getElem?_eq_getElem (by omega)] at h1
    rw [Option.bind_eq_some_iff] at h1
    obtain ⟨vc, h2, h3⟩ := h1
    exact ⟨vc, _, h2, h3, List.getElem?_eq_getElem (by omega)⟩
  rcases Nat.eq_zero_or_pos len with h0 | hpos
  · subst h0
    exact ⟨[], some a, cap, [], rfl, fun a h => (by cases h), by simp, fun h => absurd rfl h, by rw [AgsC]⟩
  obtain ⟨vc0, _, hc0, _⟩ := hone 0 hpos
  obtain ⟨hl0, hcell0⟩ := cells_at hc0
  have hcs : w.cell? a = some (vc0[0]'(by omega)) := by
    have := hcell0 0 (by omega)
    rw [List.getElem?_eq_getElem (by omega)] at this
    simpa [Addr.add] using this
  obtain ⟨b, off, spot⟩ := a
  obtain rfl : spot = none := spot_none hcs
  have hb : b < w.heap.size := cell_lt hcs
  obtain ⟨gs, xs, e, ho, hc, hx⟩ := ags_build (w := w) (p := Old w) (b := b) (off := off) (len := len) (fun i hi => by
    obtain ⟨vc, y, h1, h2, h3⟩ := hone i hi
    obtain ⟨hl1, hcell1⟩ := cells_at h1
    obtain ⟨v, ho, hv⟩ := down_arg (n := m) (DataW.trod_succ _ _ _ _ h2) (hle y.1 (List.mem_map.2 ⟨y, List.mem_of_getElem? h3, rfl⟩))
    refine ⟨v, vc, ho, hv, fun j u hu => ?_⟩
    have hj : j < 4 := by
      have := (List.getElem?_eq_some_iff.1 hu).1
      omega
    have := hcell1 j hj
    rw [add_none, add_none, hu] at this
    exact this) len (Nat.le_refl _)
  refine ⟨gs, _, cap, xs, by rw [e], ho, by omega, fun _ => ⟨b, off, rfl, hb, fun j u hu => ?_⟩, hc⟩
  have := hx j u hu
  simpa using this

set_option maxRecDepth 100000 in
/-- an argument that is a method -/
theorem open_method {v : Value} {d : DataW H} {ps : List MemPlace} {r : Reach} {b0 : Nat} (hval : Value.okWide Tryz.prog w r b0 24 v) (h : DataW.Trod enc Tryz.prog w 0 sp held 24 v d ps) (hl : Light d 24) :
    ∃ cl me gs A c xs, v = .agg #[.int .i64 cl, .int .i64 me, .slice A (List.length gs) c] ∧ (∀ a ∈ gs, Ag.ok a) ∧ gs.length ≤ c ∧ Rd w (Old w) A xs ∧ AgsC w (Old w) gs xs := by
  obtain ⟨n, h⟩ := h
  cases n with
  | zero => simp [DataW.trod] at h
  | succ n =>
    obtain ⟨xs, m, hm, hx, hlen, hxl, hget⟩ := DataW.trod_struct Tryz.underlying24 h
    obtain rfl : m = n := by omega
    rw [cells24] at hlen
    obtain ⟨c0, c1, c2, hcs⟩ := list3 _ hlen
    obtain ⟨x0, x1, x2, rfl⟩ := list3 xs hxl
    have g0 := hget 0 ({ name := "Class", type := 3, offset := 0, embedded := false, tag := "", pkgPath := "", byteOffset := 0 } : Field) rfl
    have g1 := hget 1 ({ name := "Method", type := 3, offset := 1, embedded := false, tag := "", pkgPath := "", byteOffset := 8 } : Field) rfl
    have g2 := hget 2 ({ name := "Args", type := 22, offset := 2, embedded := false, tag := "", pkgPath := "", byteOffset := 16 } : Field) rfl
    obtain ⟨k3, k38, k9, k39, k22⟩ := cells2
    rw [hcs] at g0 g1 g2
    simp only [k3, k22, List.drop_zero, List.drop_succ_cons, List.take_succ_cons, List.take_zero, List.getElem?_cons_zero, List.getElem?_cons_succ] at g0 g1 g2
    obtain ⟨a0, e0, _, _⟩ := DataW.trod_int Tryz.underlying3 g0
    obtain ⟨a1, e1, _, _⟩ := DataW.trod_int Tryz.underlying3 g1
    obtain ⟨rfl, rfl⟩ := Prod.mk.inj hx
    have l2 := hl.part Tryz.underlying24 (j := 2) rfl (d := x2.1) rfl
    obtain ⟨gs, A, c, us, e2, o1, o2, o3, o4⟩ := down_args (n := m) (DataW.trod_succ _ _ _ _ g2) l2
    simp only [List.cons.injEq, and_true] at e0 e1 e2
    subst e0 e1 e2
    refine ⟨a0, a1, gs, A, c, us, ?_, o1, o2, o3, o4⟩
    cases v with
    | agg cs =>
      simp only [Value.cells] at hcs
      have e : cs = #[.int .i64 a0, .int .i64 a1, .slice A gs.length c] := Array.toList_inj.1 hcs
      rw [e]
    | _ => simp [Value.cells] at hcs

end

end Go.Proofs.YtabeppaehenefaaGreat
