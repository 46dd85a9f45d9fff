/-
  FnMethod: arguments of methods as they lie in memory; what the statement's function makes of a method.
-/
import Derived.Test.YtabeppaehenefaaGreatC1
import Derived.Test.YtabeppaehenefaaGreatFits
import Derived.Test.YtabeppaehenefaaGreatWe
import Derived.Deep.RegionLaw
namespace Go.Proofs.YtabeppaehenefaaGreat
open Go.RowKit
set_option linter.unusedVariables false
attribute [local go_sem ↓] Go.wp_at_zero Go.wp_at_succ

/-- an argument of a method: its kind, its number, its text, its table -/
structure Ag where
  k : Int
  n : Int
  t : ByteArray
  fs : Fs
def Ag.cut (a : Ag) : Ag := { a with fs := a.fs.cut 10 4000 }
def Ag.ok (a : Ag) : Prop := (-9223372036854775808 ≤ a.k ∧ a.k ≤ 9223372036854775807) ∧ (0 ≤ a.n ∧ a.n < 18446744073709551616) ∧ a.t.size ≤ 140737488355328 ∧ a.fs.ok ∧ a.fs.len ≤ 140737488355328

abbrev acells (k n : Int) (t : ByteArray) (A : Option Addr) (l c : Nat) : List Value := [.int .i64 k, .int .u64 n, .string t, .slice A l c]
/-- an argument's four cells -/
def AgC (w : World) (p : Nat → Prop) (a : Ag) (cs : List Value) : Prop := ∃ A c ys, cs = acells a.k a.n a.t A a.fs.len c ∧ Rd w p A ys ∧ FsC w p a.fs ys ∧ a.fs.len ≤ c
def AgsC (w : World) (p : Nat → Prop) : List Ag → List Value → Prop
  | [], cs => cs = []
  | a :: r, cs => ∃ vc cs', cs = vc ++ cs' ∧ AgC w p a vc ∧ AgsC w p r cs'

theorem AgC.keep {w w1 : World} {p : Nat → Prop} (hk : ∀ g, p g → w1.heap[g]? = w.heap[g]?) {a : Ag} {cs : List Value} (h : AgC w p a cs) : AgC w1 p a cs := by
  obtain ⟨A, c, ys, e, h1, h2, h3⟩ := h
  exact ⟨A, c, ys, e, h1.keep hk, h2.keep hk, h3⟩
theorem AgC.more {w : World} {p q : Nat → Prop} (hl : ∀ g, p g → q g) {a : Ag} {cs : List Value} (h : AgC w p a cs) : AgC w q a cs := by
  obtain ⟨A, c, ys, e, h1, h2, h3⟩ := h
  exact ⟨A, c, ys, e, h1.more hl, h2.more hl, h3⟩
theorem AgsC.keep {w w1 : World} {p : Nat → Prop} (hk : ∀ g, p g → w1.heap[g]? = w.heap[g]?) : ∀ {l : List Ag} {cs : List Value}, AgsC w p l cs → AgsC w1 p l cs
  | [], cs, h => h
  | a :: r, cs, h => by
    obtain ⟨vc, cs', e, h1, h2⟩ := h
    exact ⟨vc, cs', e, h1.keep hk, AgsC.keep hk h2⟩
theorem AgsC.more {w : World} {p q : Nat → Prop} (hl : ∀ g, p g → q g) : ∀ {l : List Ag} {cs : List Value}, AgsC w p l cs → AgsC w q l cs
  | [], cs, h => h
  | a :: r, cs, h => by
    obtain ⟨vc, cs', e, h1, h2⟩ := h
    exact ⟨vc, cs', e, h1.more hl, AgsC.more hl h2⟩
theorem AgsC.len {w : World} {p : Nat → Prop} : ∀ {l : List Ag} {cs : List Value}, AgsC w p l cs → cs.length = l.length * 4
  | [], cs, h => by rw [AgsC] at h; subst h; rfl
  | a :: r, cs, h => by
    obtain ⟨vc, cs', rfl, ⟨A, c, ys, rfl, _⟩, h2⟩ := h
    rw [List.length_append, AgsC.len h2]
    simp
    omega
theorem AgsC.snoc {w : World} {p : Nat → Prop} {a : Ag} {vc : List Value} (hv : AgC w p a vc) : ∀ {l : List Ag} {cs : List Value}, AgsC w p l cs → AgsC w p (l ++ [a]) (cs ++ vc)
  | [], cs, h => by rw [AgsC] at h; subst h; exact ⟨vc, [], by simp, hv, rfl⟩
  | b :: r, cs, h => by
    obtain ⟨uc, cs', rfl, h1, h2⟩ := h
    exact ⟨uc, cs' ++ vc, by simp, h1, AgsC.snoc hv h2⟩
/-- the m-th argument's cells -/
theorem AgsC.at_ {w : World} {p : Nat → Prop} {A : Option Addr} {xs : List Value} {m : Nat} {a : Ag} {r : List Ag} (hr : Rd w p A xs) (h : AgsC w p (a :: r) (xs.drop m)) :
    ∃ b off a1 c1 ys, A = some ⟨b, off, none⟩ ∧ p b ∧ w.cell? ⟨b, off + m, none⟩ = some (.int .i64 a.k) ∧ w.cell? ⟨b, off + m + 1, none⟩ = some (.int .u64 a.n) ∧ w.cell? ⟨b, off + m + 2, none⟩ = some (.string a.t) ∧ w.cell? ⟨b, off + m + 3, none⟩ = some (.slice a1 a.fs.len c1) ∧
      Rd w p a1 ys ∧ FsC w p a.fs ys ∧ a.fs.len ≤ c1 ∧ AgsC w p r (xs.drop (m + 4)) := by
  obtain ⟨vc, cs', e, ⟨a1, c1, ys, rfl, h1, h2, h3⟩, h4⟩ := h
  have hne : xs ≠ [] := by rintro rfl; simp at e
  obtain ⟨b, off, rfl, hp, hc⟩ := hr hne
  have hx : ∀ j, (xs.drop m)[j]? = xs[m + j]? := fun j => by rw [List.getElem?_drop]
  have g : ∀ j u, (acells a.k a.n a.t a1 a.fs.len c1 ++ cs')[j]? = some u → w.cell? ⟨b, off + (m + j), none⟩ = some u := fun j u hu => hc _ _ (by rw [← hx, e]; exact hu)
  refine ⟨b, off, a1, c1, ys, rfl, hp, ?_, ?_, ?_, ?_, h1, h2, h3, ?_⟩
  · have := g 0 _ rfl; simpa using this
  · rw [Nat.add_assoc]; exact g 1 _ rfl
  · rw [Nat.add_assoc]; exact g 2 _ rfl
  · rw [Nat.add_assoc]; exact g 3 _ rfl
  · rw [← List.drop_drop, e]; exact h4

theorem under26 : Tryz.prog.underlying 26 = some (.slice 45) := by kernel_rfl
theorem info45 : (Tryz.prog.info? 45).map (fun i => (i.zero, i.size, i.bytes)) = some (some (.agg #[.int .i64 0, .int .u64 0, .string ⟨#[]⟩, .slice none 0 0]), 4, 56) := by kernel_rfl
theorem src45 (w2 : World) (k n : Int) (t : ByteArray) (A : Option Addr) (l c : Nat) :
    Src Tryz.prog 4 26 (.slice (some ⟨w2.heap.size, 0, none⟩) 1 1) 1 (acells k n t A l c) (w2.alloc (.cells (acells k n t A l c).toArray 45)) :=
  Src.ofSlice _ under26 ⟨w2.heap.size, 0, none⟩ 1 1 _ rfl (by have := World.news_of_block (Blk.new w2 45 (acells k n t A l c).toArray); simpa using this) (by intro u hu; simp at hu; rcases hu with rfl | rfl | rfl | rfl <;> rfl)

set_option maxRecDepth 100000 in
set_option maxHeartbeats 1000000 in
/-- zzFits1 -/
theorem zzFits1_any (cl me : Int) (A : Option Addr) (n c : Nat) (w : World) : Calls Tryz.prog 4 #[.agg #[.int .i64 cl, .int .i64 me, .slice A n c]] w fun e w' => e = .returned (.bool (decide (n ≤ 2147483647))) ∧ w' = w.alloc (.cells #[.int .i64 cl, .int .i64 me, .slice A n c] 24) := by
  by_cases h : n ≤ 2147483647
  · have h' : ¬ (2147483647 < (n : Int)) := by omega
    have hd : decide (n ≤ 2147483647) = true := by simp [h]
    rw [hd]
    clear hd
    go_enter Tryz.func4, Tryz.ntmps4
    go_wp2
    go_ret
    exact ⟨rfl, rfl⟩
  · have h' : (2147483647 : Int) < (n : Int) := by omega
    have hd : decide (n ≤ 2147483647) = false := by simp [h]
    rw [hd]
    clear hd
    go_enter Tryz.func4, Tryz.ntmps4
    go_wp2
    go_ret
    exact ⟨rfl, rfl⟩

/-- what laws.method gives -/
def MethPost (w : World) (cl me : Int) (gs : List Ag) (e : Ending) (w' : World) : Prop :=
  ∃ A' c' ys, e = .returned (.agg #[.int .i64 cl, .int .i64 me, .slice A' gs.length c']) ∧ gs.length ≤ c' ∧ Rd w' (New w w') A' ys ∧ AgsC w' (New w w') (gs.map Ag.cut) ys ∧ Below w.heap.size w w'

set_option maxRecDepth 100000 in
set_option maxHeartbeats 8000000 in
/-- laws.method -/
theorem method_any (cl me : Int) (gs : List Ag) (A : Option Addr) (c : Nat) (xs : List Value) (p : Nat → Prop) (w : World) (hok : ∀ a ∈ gs, a.ok) (hlen : gs.length ≤ 2147483647) (hR : Rd w p A xs) (hA : AgsC w p gs xs) (hc : gs.length ≤ c) (hp : ∀ g, p g → g < w.heap.size) :
    Calls Tryz.prog 5 #[.agg #[.int .i64 cl, .int .i64 me, .slice A gs.length c]] w (MethPost w cl me gs) := by
  obtain ⟨i1, hi1, hz1, hs1, hb1⟩ := info_parts info45
  have HR := Lib.hid hR
  have HA := Lib.hid hA
  have Hok := Lib.hid hok
  have HP := Lib.hid hp
  clear hR hA hok hp
  go_enter Tryz.func5, Tryz.ntmps5
  go_upto_region 2 with fail
  have b1 : Blk (((w.alloc (.cells #[.int .i64 cl, .int .i64 me, .slice A gs.length c] 24)).alloc (.cells #[.int .i64 0, .int .i64 0, .slice none 0 0] 28)).alloc (.cells #[.int .i64 cl, .int .i64 me, .slice none 0 0] 28)) w.heap.size 24 #[.int .i64 cl, .int .i64 me, .slice A gs.length c] := ((Blk.new w _ _).alloc _).alloc _
  have b2 : Blk (((w.alloc (.cells #[.int .i64 cl, .int .i64 me, .slice A gs.length c] 24)).alloc (.cells #[.int .i64 0, .int .i64 0, .slice none 0 0] 28)).alloc (.cells #[.int .i64 cl, .int .i64 me, .slice none 0 0] 28)) (w.heap.size + 1) 28 #[.int .i64 0, .int .i64 0, .slice none 0 0] := by
    have := (Blk.new (w.alloc (.cells #[.int .i64 cl, .int .i64 me, .slice A gs.length c] 24)) 28 #[.int .i64 0, .int .i64 0, .slice none 0 0]).alloc (.cells #[.int .i64 cl, .int .i64 me, .slice none 0 0] 28); simpa using this
  have b3 : Blk (((w.alloc (.cells #[.int .i64 cl, .int .i64 me, .slice A gs.length c] 24)).alloc (.cells #[.int .i64 0, .int .i64 0, .slice none 0 0] 28)).alloc (.cells #[.int .i64 cl, .int .i64 me, .slice none 0 0] 28)) (w.heap.size + 1 + 1) 28 #[.int .i64 cl, .int .i64 me, .slice none 0 0] := by
    have := Blk.new ((w.alloc (.cells #[.int .i64 cl, .int .i64 me, .slice A gs.length c] 24)).alloc (.cells #[.int .i64 0, .int .i64 0, .slice none 0 0] 28)) 28 #[.int .i64 cl, .int .i64 me, .slice none 0 0]; simpa using this
  have hbel0 : Below w.heap.size w (((w.alloc (.cells #[.int .i64 cl, .int .i64 me, .slice A gs.length c] 24)).alloc (.cells #[.int .i64 0, .int .i64 0, .slice none 0 0] 28)).alloc (.cells #[.int .i64 cl, .int .i64 me, .slice none 0 0] 28)) := (((Below.refl _ _).alloc (Nat.le_refl _) _).alloc (by simp) _).alloc (by simp; omega) _
  generalize (((w.alloc (.cells #[.int .i64 cl, .int .i64 me, .slice A gs.length c] 24)).alloc (.cells #[.int .i64 0, .int .i64 0, .slice none 0 0] 28)).alloc (.cells #[.int .i64 cl, .int .i64 me, .slice none 0 0] 28)) = wx at b1 b2 b3 hbel0 ⊢
  have q1 : wx.cell? ⟨w.heap.size, 2, none⟩ = some (.slice A gs.length c) := by rw [b1.cell]; rfl
  go_wp2_with fail
  clear q1 b1
  go_loopw [14] (fun i wr => ∃ (j : Nat) (rest dn : List Ag) (cs : List Value) (sv : Value), i = .int .i64 j ∧ rest.length + j = gs.length ∧ dn.length = j ∧ gs = dn ++ rest ∧ AgsC w p rest (xs.drop (j * 4)) ∧
    Blk wr (w.heap.size + 1 + 1) 28 #[.int .i64 cl, .int .i64 me, sv] ∧ Blk wr (w.heap.size + 1) 28 #[.int .i64 0, .int .i64 0, .slice none 0 0] ∧ wr.ownsRow (w.heap.size + 3) 45 4 sv j cs ∧
    AgsC wr (fun g => (w.heap.size + 3 ≤ g ∧ g < wr.heap.size) ∧ some g ≠ sv.ownBlock) (dn.map Ag.cut) cs ∧ Below w.heap.size w wr) (fun i _ => gs.length - (intOf i).toNat)
  case atStart => exact ⟨0, gs, [], [], .slice none 0 0, rfl, rfl, rfl, rfl, by simpa using HA.out, b3, b2, World.ownsRow_nil _ _ _ _, rfl, hbel0⟩
  case round =>
    obtain ⟨j, rest, dn, cs, sv, rfl, hrest, hdj, hgs, hrA, hb3, hb2, hown, hcs, hbel⟩ := hrel
    have HGs := Lib.hid hgs
    have HDj := Lib.hid hdj
    have HCs := Lib.hid hcs
    have hsz := hbel.size
    have hl3 := hb3.lt
    clear hgs hdj hcs b2 b3 hbel0
    cases rest with
    | nil =>
      have hjk : j = gs.length := by simpa using hrest
      clear hrest
      subst hjk
      have hdn : gs = dn := by have := HGs.out; simpa using this
      have HDn := Lib.hid hdn
      obtain ⟨A6, c6, rfl⟩ := own_shape hown
      have e0 : wr.cell? ⟨w.heap.size + 1 + 1, 0, none⟩ = some (.int .i64 cl) := by rw [hb3.cell]; rfl
      have e1 : wr.cell? ⟨w.heap.size + 1 + 1, 1, none⟩ = some (.int .i64 me) := by rw [hb3.cell]; rfl
      have e2 : wr.cell? ⟨w.heap.size + 1 + 1, 2, none⟩ = some (.slice A6 gs.length c6) := by rw [hb3.cell]; rfl
      have f0 : wr.cell? ⟨w.heap.size + 1, 0, none⟩ = some (.int .i64 0) := by rw [hb2.cell]; rfl
      have f1 : wr.cell? ⟨w.heap.size + 1, 1, none⟩ = some (.int .i64 0) := by rw [hb2.cell]; rfl
      have f2 : wr.cell? ⟨w.heap.size + 1, 2, none⟩ = some (.slice none 0 0) := by rw [hb2.cell]; rfl
      have fz := fun i => hb2.frozen i
      have h9 : Blk (((wr.setCell ⟨w.heap.size + 1, 0, none⟩ (.int .i64 cl)).setCell ⟨w.heap.size + 1, 1, none⟩ (.int .i64 me)).setCell ⟨w.heap.size + 1, 2, none⟩ (.slice A6 gs.length c6)) (w.heap.size + 1) 28 #[.int .i64 cl, .int .i64 me, .slice A6 gs.length c6] := by
        have := ((hb2.set_ 0 (.int .i64 cl)).set_ 1 (.int .i64 me)).set_ 2 (.slice A6 gs.length c6); simpa using this
      have j0 : (((wr.setCell ⟨w.heap.size + 1, 0, none⟩ (.int .i64 cl)).setCell ⟨w.heap.size + 1, 1, none⟩ (.int .i64 me)).setCell ⟨w.heap.size + 1, 2, none⟩ (.slice A6 gs.length c6)).cell? ⟨w.heap.size + 1, 0, none⟩ = some (.int .i64 cl) := by rw [h9.cell]; rfl
      have j1 : (((wr.setCell ⟨w.heap.size + 1, 0, none⟩ (.int .i64 cl)).setCell ⟨w.heap.size + 1, 1, none⟩ (.int .i64 me)).setCell ⟨w.heap.size + 1, 2, none⟩ (.slice A6 gs.length c6)).cell? ⟨w.heap.size + 1, 1, none⟩ = some (.int .i64 me) := by rw [h9.cell]; rfl
      have j2 : (((wr.setCell ⟨w.heap.size + 1, 0, none⟩ (.int .i64 cl)).setCell ⟨w.heap.size + 1, 1, none⟩ (.int .i64 me)).setCell ⟨w.heap.size + 1, 2, none⟩ (.slice A6 gs.length c6)).cell? ⟨w.heap.size + 1, 2, none⟩ = some (.slice A6 gs.length c6) := by rw [h9.cell]; rfl
      have hz : (((wr.setCell ⟨w.heap.size + 1, 0, none⟩ (.int .i64 cl)).setCell ⟨w.heap.size + 1, 1, none⟩ (.int .i64 me)).setCell ⟨w.heap.size + 1, 2, none⟩ (.slice A6 gs.length c6)).heap.size = wr.heap.size := by simp [World.setCell]
      have hkp : ∀ g, (w.heap.size + 3 ≤ g ∧ g < wr.heap.size) → (((wr.setCell ⟨w.heap.size + 1, 0, none⟩ (.int .i64 cl)).setCell ⟨w.heap.size + 1, 1, none⟩ (.int .i64 me)).setCell ⟨w.heap.size + 1, 2, none⟩ (.slice A6 gs.length c6)).heap[g]? = wr.heap[g]? := fun g hg =>
        ((Below.heap_setCell _ _ _ _ (by show g ≠ w.heap.size + 1; omega)).trans (Below.heap_setCell _ _ _ _ (by show g ≠ w.heap.size + 1; omega))).trans (Below.heap_setCell _ _ _ _ (by show g ≠ w.heap.size + 1; omega))
      have hpost : MethPost w cl me gs (.returned (.agg #[.int .i64 cl, .int .i64 me, .slice A6 gs.length c6])) (((wr.setCell ⟨w.heap.size + 1, 0, none⟩ (.int .i64 cl)).setCell ⟨w.heap.size + 1, 1, none⟩ (.int .i64 me)).setCell ⟨w.heap.size + 1, 2, none⟩ (.slice A6 gs.length c6)) := by
        obtain ⟨y1, y2⟩ := Rd.of_own (p := fun g => w.heap.size + 3 ≤ g ∧ g < wr.heap.size) hown (fun g _ h1 h2 => ⟨h1, h2⟩)
        have hmo : ∀ g, (w.heap.size + 3 ≤ g ∧ g < wr.heap.size) → New w (((wr.setCell ⟨w.heap.size + 1, 0, none⟩ (.int .i64 cl)).setCell ⟨w.heap.size + 1, 1, none⟩ (.int .i64 me)).setCell ⟨w.heap.size + 1, 2, none⟩ (.slice A6 gs.length c6)) g := fun g hg => ⟨by omega, by rw [hz]; exact hg.2⟩
        have hcs' := HCs.out
        rw [← HDn.out] at hcs'
        exact ⟨A6, c6, cs, rfl, y2, (y1.keep hkp).more hmo, (hcs'.keep (fun g hg => hkp g hg.1)).more (fun g hg => hmo g hg.1), ((hbel.setCell (by simp) _).setCell (by simp) _).setCell (by simp) _⟩
      have HPost := Lib.hid hpost
      clear hpost hkp hz h9 hb2 hb3 hown hbel hdn
      go_wp2_with fail
      exact bodyPost_ret (v := .agg #[.int .i64 cl, .int .i64 me, .slice A6 gs.length c6]) (by simp [results, Tryz.results5, go_sem, j0, j1, j2]) rfl HPost.out
    | cons a q =>
      rw [List.length_cons] at hrest
      obtain ⟨bb, off, a1, c1, ys, rfl, hpb, e0, e1, e2, e3, x1, x2, x3, x4⟩ := AgsC.at_ HR.out hrA
      have hkeep : ∀ g, p g → wr.heap[g]? = w.heap[g]? := fun g hg => hbel.block g (HP.out g hg)
      have hb' := hkeep bb hpb
      rw [← World.cell?_of_block (w := w) (w' := wr) (a := ⟨bb, off + j * 4, none⟩) hb'] at e0
      rw [← World.cell?_of_block (w := w) (w' := wr) (a := ⟨bb, off + j * 4 + 1, none⟩) hb'] at e1
      rw [← World.cell?_of_block (w := w) (w' := wr) (a := ⟨bb, off + j * 4 + 2, none⟩) hb'] at e2
      rw [← World.cell?_of_block (w := w) (w' := wr) (a := ⟨bb, off + j * 4 + 3, none⟩) hb'] at e3
      have hk0 : (0 : Int) ≤ (j : Int) := by omega
      have hk1 : (j : Int) < (gs.length : Int) := by omega
      have hao : a.ok := Hok.out a (by rw [HGs.out]; simp)
      obtain ⟨ak, an, at_, afs⟩ := a
      simp only at e0 e1 e2 e3 x1 x2 x3
      have hX4 := Lib.hid x4
      clear x4 hrA
      go_upto_region 5 with fail
      have hy := Blk.new wr 41 (acells ak an at_ a1 afs.len c1).toArray
      have hb31 := hb3.alloc (.cells (acells ak an at_ a1 afs.len c1).toArray 41)
      have hb21 := hb2.alloc (.cells (acells ak an at_ a1 afs.len c1).toArray 41)
      have hown1 := hown.alloc (.cells (acells ak an at_ a1 afs.len c1).toArray 41)
      have hk1' : ∀ g, g < wr.heap.size → (wr.alloc (.cells (acells ak an at_ a1 afs.len c1).toArray 41)).heap[g]? = wr.heap[g]? := fun g hg => Below.heap_alloc _ _ _ hg
      have hbel1 : Below w.heap.size w (wr.alloc (.cells (acells ak an at_ a1 afs.len c1).toArray 41)) := hbel.alloc hsz _
      have hsz1 : (wr.alloc (.cells (acells ak an at_ a1 afs.len c1).toArray 41)).heap.size = wr.heap.size + 1 := by simp
      generalize wr.alloc (.cells (acells ak an at_ a1 afs.len c1).toArray 41) = wX at hy hb31 hb21 hown1 hk1' hbel1 hsz1 ⊢
      have HK1 := Lib.hid hk1'
      have HS1 := Lib.hid hsz1
      have hrow := hown.lt
      have HRow := Lib.hid hrow
      have hcall := table_any afs a1 c1 ys p wX.drew hao.2.2.2.1 hao.2.2.2.2 (x1.keep (w1 := wX.drew) (fun g hg => hbel1.block g (HP.out g hg))) (x2.keep (w1 := wX.drew) (fun g hg => hbel1.block g (HP.out g hg))) x3 (fun g hg => by have := HP.out g hg; have := hbel1.size; show g < wX.heap.size; omega)
      have HCall := Lib.hid hcall
      have v0 : wX.cell? ⟨wr.heap.size, 0, none⟩ = some (.int .i64 ak) := by rw [hy.cell]; rfl
      have v1 : wX.cell? ⟨wr.heap.size, 1, none⟩ = some (.int .u64 an) := by rw [hy.cell]; rfl
      have v2 : wX.cell? ⟨wr.heap.size, 2, none⟩ = some (.string at_) := by rw [hy.cell]; rfl
      have v3 : wX.cell? ⟨wr.heap.size, 3, none⟩ = some (.slice a1 afs.len c1) := by rw [hy.cell]; rfl
      have yb : wX.cell? ⟨w.heap.size + 1 + 1, 2, none⟩ = some sv := by rw [hb31.cell]; rfl
      have hne1 : ¬ (w.heap.size + 1 + 1 = wr.heap.size) := by omega
      have hne2 : ¬ (wr.heap.size = w.heap.size + 1 + 1) := by omega
      clear hcall hk1' hsz1 hrow x1 x2 e0 e1 e2 e3 hkeep hb' hao
      refine wp_region_held_drew (S := fun w' => Blk w' wr.heap.size 41 (acells ak an at_ a1 afs.len c1).toArray) (by kernel_rfl) hy.drew (fun hHeld => ?_)
      refine wpAnyH_take (i := 0) (oi := ⟨_, _, _, _, _, _⟩) (v := ?_) rfl (by kernel_rfl) (by kernel_rfl) (by kernel_rfl) (fun _ _ _ h => h) (Or.inl ⟨by rfl, ?_⟩) hHeld ?_
      rotate_left
      · (intro w' hSw; go_simp; (try with_reducible rfl))
      try simp only [Act.put, List.setIfInBounds_toArray, List.set_cons_zero, List.set_cons_succ]
      refine wpAnyH_take (i := 2) (oi := ⟨_, _, _, _, _, _⟩) (v := ?_) rfl (by kernel_rfl) (by kernel_rfl) (by kernel_rfl) (fun _ _ _ h => h) (Or.inl ⟨by rfl, ?_⟩) hHeld ?_
      rotate_left
      · (intro w' hSw; go_simp; (try with_reducible rfl))
      try simp only [Act.put, List.setIfInBounds_toArray, List.set_cons_zero, List.set_cons_succ]
      refine wpAnyH_take (i := 3) (oi := ⟨_, _, _, _, _, _⟩) (v := ?_) rfl (by kernel_rfl) (by kernel_rfl) (by kernel_rfl) (fun _ _ _ h => h) (Or.inl ⟨by rfl, ?_⟩) hHeld ?_
      rotate_left
      · intro w' hSw; have sv_ : w'.cell? ⟨wr.heap.size, 0, none⟩ = some (.int .i64 ak) := (by rw [hSw.cell]; rfl); go_simp; (try with_reducible rfl)
      try simp only [Act.put, List.setIfInBounds_toArray, List.set_cons_zero, List.set_cons_succ]
      refine wpAnyH_take (i := 4) (oi := ⟨_, _, _, _, _, _⟩) (v := ?_) rfl (by kernel_rfl) (by kernel_rfl) (by kernel_rfl) (fun _ _ _ h => h) (Or.inl ⟨by rfl, ?_⟩) hHeld ?_
      rotate_left
      · (intro w' hSw; go_simp; (try with_reducible rfl))
      try simp only [Act.put, List.setIfInBounds_toArray, List.set_cons_zero, List.set_cons_succ]
      refine wpAnyH_take (i := 5) (oi := ⟨_, _, _, _, _, _⟩) (v := ?_) rfl (by kernel_rfl) (by kernel_rfl) (by kernel_rfl) (fun _ _ _ h => h) (Or.inl ⟨by rfl, ?_⟩) hHeld ?_
      rotate_left
      · intro w' hSw; have sv_ : w'.cell? ⟨wr.heap.size, 1, none⟩ = some (.int .u64 an) := (by rw [hSw.cell]; rfl); go_simp; (try with_reducible rfl)
      try simp only [Act.put, List.setIfInBounds_toArray, List.set_cons_zero, List.set_cons_succ]
      refine wpAnyH_take (i := 6) (oi := ⟨_, _, _, _, _, _⟩) (v := ?_) rfl (by kernel_rfl) (by kernel_rfl) (by kernel_rfl) (fun _ _ _ h => h) (Or.inl ⟨by rfl, ?_⟩) hHeld ?_
      rotate_left
      · (intro w' hSw; go_simp; (try with_reducible rfl))
      try simp only [Act.put, List.setIfInBounds_toArray, List.set_cons_zero, List.set_cons_succ]
      refine wpAnyH_take (i := 7) (oi := ⟨_, _, _, _, _, _⟩) (v := ?_) rfl (by kernel_rfl) (by kernel_rfl) (by kernel_rfl) (fun _ _ _ h => h) (Or.inl ⟨by rfl, ?_⟩) hHeld ?_
      rotate_left
      · intro w' hSw; have sv_ : w'.cell? ⟨wr.heap.size, 2, none⟩ = some (.string at_) := (by rw [hSw.cell]; rfl); go_simp; (try with_reducible rfl)
      try simp only [Act.put, List.setIfInBounds_toArray, List.set_cons_zero, List.set_cons_succ]
      refine wpAnyH_take (i := 8) (oi := ⟨_, _, _, _, _, _⟩) (v := ?_) rfl (by kernel_rfl) (by kernel_rfl) (by kernel_rfl) (fun _ _ _ h => h) (Or.inl ⟨by rfl, ?_⟩) hHeld ?_
      rotate_left
      · (intro w' hSw; go_simp; (try with_reducible rfl))
      try simp only [Act.put, List.setIfInBounds_toArray, List.set_cons_zero, List.set_cons_succ]
      refine wpAnyH_take (i := 9) (oi := ⟨_, _, _, _, _, _⟩) (v := ?_) rfl (by kernel_rfl) (by kernel_rfl) (by kernel_rfl) (fun _ _ _ h => h) (Or.inl ⟨by rfl, ?_⟩) hHeld ?_
      rotate_left
      · intro w' hSw; have sv_ : w'.cell? ⟨wr.heap.size, 3, none⟩ = some (.slice a1 afs.len c1) := (by rw [hSw.cell]; rfl); go_simp; (try with_reducible rfl)
      try simp only [Act.put, List.setIfInBounds_toArray, List.set_cons_zero, List.set_cons_succ]
      refine wpAnyH_ready (rs := [1, 10]) (by kernel_rfl) (by simp) ?_
      refine (AllReadyH.cons (o := ⟨_, _, _, _, _, _⟩) rfl (fun K hK => ?_) (AllReadyH.cons (o := ⟨_, _, _, _, _, _⟩) rfl (fun K hK => ?_) AllReadyH.nil))
      · skip
        go_simp
        go_wp2_with fail
        refine hK.out _ _ (hy.drew) (fun hHeld => ?_)
        clear hK K
        try simp only [Act.put, List.setIfInBounds_toArray, List.set_cons_zero, List.set_cons_succ]
        refine wpAnyH_ready (rs := [10]) (by kernel_rfl) (by simp) ?_
        refine (AllReadyH.cons (o := ⟨_, _, _, _, _, _⟩) rfl (fun K hK => ?_) AllReadyH.nil)
        go_simp
        refine HCall.out.mono ?_
        rintro e' w2 ⟨A2, c2, ys2, rfl, z1, z2, z3, z4⟩
        have hb32 := hb31.drew.below z4 (by have := hb31.lt; exact this)
        have hb22 := hb21.drew.below z4 (by have := hb21.lt; exact this)
        have hy2 := hy.drew.below z4 (by have := hy.lt; exact this)
        have yb3 : w2.cell? ⟨w.heap.size + 1 + 1, 2, none⟩ = some sv := by rw [hb32.cell]; rfl
        have yb3a : ∀ o, (w2.alloc o).cell? ⟨w.heap.size + 1 + 1, 2, none⟩ = some sv := fun o => by rw [(hb32.alloc o).cell]; rfl
        have hown2 := own_keep hown1 (fun g hg => z4.block g (hown1.lt g hg).2)
        have HZ1 := Lib.hid z1
        have HZ2 := Lib.hid z2
        clear z1 z2
        go_wp2_with fail
        refine hK.out _ _ (hy2) (fun hHeld => ?_)
        clear hK K
        try simp only [Act.put, List.setIfInBounds_toArray, List.set_cons_zero, List.set_cons_succ]
        refine wpAnyH_take (i := 11) (oi := ⟨_, _, _, _, _, _⟩) (v := ?_) rfl (by kernel_rfl) (by kernel_rfl) (by kernel_rfl) (fun _ _ _ h => h) (Or.inl ⟨by rfl, ?_⟩) hHeld ?_
        rotate_left
        · (intro w' hSw; go_simp; (try with_reducible rfl))
        try simp only [Act.put, List.setIfInBounds_toArray, List.set_cons_zero, List.set_cons_succ]
        refine wpAnyH_ready (rs := [12]) (by kernel_rfl) (by simp) ?_
        refine (AllReadyH.cons (o := ⟨_, _, _, _, _, _⟩) rfl (fun K hK => ?_) AllReadyH.nil)
        go_simp
        go_wp2_with fail
        refine hK.out _ _ (hy2.alloc _) (fun hHeld => ?_)
        clear hK K
        try simp only [Act.put, List.setIfInBounds_toArray, List.set_cons_zero, List.set_cons_succ]
        refine wpAnyH_ready (rs := [13]) (by kernel_rfl) (by simp) ?_
        refine (AllReadyH.cons (o := ⟨_, _, _, _, _, _⟩) rfl (fun K hK => ?_) AllReadyH.nil)
        refine step_append_src _ rfl (.tmp 19) (.tmp 30) 26 26 rfl (w.heap.size + 3) 45 i1 _ 4 56 under26 hi1 hz1 hs1 hb1 rfl sv j cs rfl (hown2.alloc _) (.slice (some ⟨w2.heap.size, 0, none⟩) 1 1) 1 (acells ak an at_ A2 (afs.cut 10 4000).len c2) rfl
          (src45 w2 ak an at_ A2 (afs.cut 10 4000).len c2) (by unfold maxLen; omega) (by omega) (by have := z4.size; have := hbel1.size; have := HS1.out; simp at *; omega) ?_
        intro v' w5 hown5 hg5 hat5
        obtain ⟨A5, c5, rfl⟩ := own_shape hown5
        have hnb3 : some (w.heap.size + 1 + 1) ≠ sv.ownBlock := fun e => by have := (HRow.out _ e.symm).1; omega
        have hnb2 : some (w.heap.size + 1) ≠ sv.ownBlock := fun e => by have := (HRow.out _ e.symm).1; omega
        have hnby : some wr.heap.size ≠ sv.ownBlock := fun e => by have := (HRow.out _ e.symm).2; omega
        have hb35 : Blk w5 (w.heap.size + 1 + 1) 28 #[.int .i64 cl, .int .i64 me, sv] := (hg5.block _ (by have := hb32.lt; simp; omega) hnb3).trans (hb32.alloc _)
        have hb25 : Blk w5 (w.heap.size + 1) 28 #[.int .i64 0, .int .i64 0, .slice none 0 0] := (hg5.block _ (by have := hb22.lt; simp; omega) hnb2).trans (hb22.alloc _)
        have hy5 := (hg5.block _ (by have := hy2.lt; simp; omega) hnby).trans (hy2.alloc (.cells (acells ak an at_ A2 (afs.cut 10 4000).len c2).toArray 45))
        have yb5 : w5.cell? ⟨w.heap.size + 1 + 1, 2, none⟩ = some sv := by rw [hb35.cell]; rfl
        have fb5 := hb35.frozen 2
        go_wp2_with fail
        refine hK.out _ _ (hy5) (fun hHeld => ?_)
        clear hK K
        try simp only [Act.put, List.setIfInBounds_toArray, List.set_cons_zero, List.set_cons_succ]
        refine wpAnyH_take (i := 14) (oi := ⟨_, _, _, _, _, _⟩) (v := ?_) rfl (by kernel_rfl) (by kernel_rfl) (by kernel_rfl) (fun _ _ _ h => h) (Or.inl ⟨by rfl, ?_⟩) hHeld ?_
        rotate_left
        · (intro w' hSw; go_simp; (try with_reducible rfl))
        try simp only [Act.put, List.setIfInBounds_toArray, List.set_cons_zero, List.set_cons_succ]
        refine wpAnyH_ready (rs := [15]) (by kernel_rfl) (by simp) ?_
        refine (AllReadyH.cons (o := ⟨_, _, _, _, _, _⟩) rfl (fun K hK => ?_) AllReadyH.nil)
        go_simp
        go_wp2_with fail
        refine hK.out _ _ ((Blk.far hy5 (by show wr.heap.size ≠ w.heap.size + 1 + 1; omega) _)) (fun hHeld => ?_)
        clear hK K
        try simp only [Act.put, List.setIfInBounds_toArray, List.set_cons_zero, List.set_cons_succ]
        have hs2 := z4.size
        have hs5 := hg5.size
        have hsX := HS1.out
        simp only [World.size_alloc] at hs5
        have hs9 : (w5.setCell ⟨w.heap.size + 1 + 1, 2, none⟩ (.slice A5 (j + 1) c5)).heap.size = w5.heap.size := by simp [World.setCell]
        have hs2' : wX.heap.size ≤ w2.heap.size := hs2
        have hown7 : ∀ x, x < w2.heap.size → some x ≠ sv.ownBlock → some x ≠ (Value.slice A5 (j + 1) c5).ownBlock := by
          intro x hx h
          rcases hat5 with e | e
          · rw [e]; exact h
          · rw [e]; simp; omega
        have hgk : ∀ g, g < w2.heap.size → some g ≠ sv.ownBlock → g ≠ w.heap.size + 1 + 1 → (w5.setCell ⟨w.heap.size + 1 + 1, 2, none⟩ (.slice A5 (j + 1) c5)).heap[g]? = w2.heap[g]? := fun g h1 h2 h3 =>
          (Below.heap_setCell w5 ⟨w.heap.size + 1 + 1, 2, none⟩ _ g h3).trans ((hg5.block g (by simp; omega) h2).trans (Below.heap_alloc _ _ _ h1))
        have hgo : ∀ g, (w.heap.size + 3 ≤ g ∧ g < wr.heap.size) ∧ some g ≠ sv.ownBlock → (w5.setCell ⟨w.heap.size + 1 + 1, 2, none⟩ (.slice A5 (j + 1) c5)).heap[g]? = wr.heap[g]? := by
          rintro g ⟨⟨h1, h2⟩, h3⟩
          exact (hgk g (by omega) h3 (by omega)).trans ((z4.block g (by show g < wX.heap.size; omega)).trans (HK1.out g h2))
        have hp1 : ∀ g, (w.heap.size + 3 ≤ g ∧ g < wr.heap.size) ∧ some g ≠ sv.ownBlock → (w.heap.size + 3 ≤ g ∧ g < (w5.setCell ⟨w.heap.size + 1 + 1, 2, none⟩ (.slice A5 (j + 1) c5)).heap.size) ∧ some g ≠ (Value.slice A5 (j + 1) c5).ownBlock := by
          rintro g ⟨⟨h1, h2⟩, h3⟩
          exact ⟨⟨h1, by rw [hs9]; omega⟩, hown7 g (by omega) h3⟩
        have hnx : ∀ g, New wX.drew w2 g → some g ≠ sv.ownBlock ∧ g ≠ w.heap.size + 1 + 1 := by
          rintro g ⟨h1, h2⟩
          have h1' : wX.heap.size ≤ g := h1
          refine ⟨fun e => ?_, by omega⟩
          have := (HRow.out g e.symm).2
          omega
        have hp2 : ∀ g, New wX.drew w2 g → (w.heap.size + 3 ≤ g ∧ g < (w5.setCell ⟨w.heap.size + 1 + 1, 2, none⟩ (.slice A5 (j + 1) c5)).heap.size) ∧ some g ≠ (Value.slice A5 (j + 1) c5).ownBlock := by
          intro g hg
          obtain ⟨h1, h2⟩ := hnx g hg
          have h1' : wX.heap.size ≤ g := hg.1
          exact ⟨⟨by omega, by rw [hs9]; have := hg.2; omega⟩, hown7 g hg.2 h1⟩
        have hk2 : ∀ g, New wX.drew w2 g → (w5.setCell ⟨w.heap.size + 1 + 1, 2, none⟩ (.slice A5 (j + 1) c5)).heap[g]? = w2.heap[g]? := fun g hg => hgk g hg.2 (hnx g hg).1 (hnx g hg).2
        have F1 := Lib.hid (AgsC.snoc (a := Ag.cut ⟨ak, an, at_, afs⟩) ⟨A2, c2, ys2, rfl, (HZ1.out.keep hk2).more hp2, (HZ2.out.keep hk2).more hp2, z3⟩ ((HCs.out.keep hgo).more hp1))
        have f5 : Below w.heap.size w (w5.setCell ⟨w.heap.size + 1 + 1, 2, none⟩ (.slice A5 (j + 1) c5)) := ((((hbel1.drew.trans (z4.mono hbel1.size)).alloc (by omega) _).grown hg5 (by simp; omega) (fun g hg => by have := (HRow.out g hg).1; omega)).setCell (by show w.heap.size ≤ w.heap.size + 1 + 1; omega) _)
        have f6 : Blk (w5.setCell ⟨w.heap.size + 1 + 1, 2, none⟩ (.slice A5 (j + 1) c5)) (w.heap.size + 1 + 1) 28 #[.int .i64 cl, .int .i64 me, .slice A5 (j + 1) c5] := by
          have := hb35.set_ 2 (.slice A5 (j + 1) c5); simpa using this
        have f8 : Blk (w5.setCell ⟨w.heap.size + 1 + 1, 2, none⟩ (.slice A5 (j + 1) c5)) (w.heap.size + 1) 28 #[.int .i64 0, .int .i64 0, .slice none 0 0] := hb25.far (by show w.heap.size + 1 ≠ w.heap.size + 1 + 1; omega) _
        have hn7 := hown7 (w.heap.size + 1 + 1) (by omega) hnb3
        have f7 : (w5.setCell ⟨w.heap.size + 1 + 1, 2, none⟩ (.slice A5 (j + 1) c5)).ownsRow (w.heap.size + 3) 45 4 (.slice A5 (j + 1) c5) (j + 1) (cs ++ acells ak an at_ A2 (afs.cut 10 4000).len c2) :=
          own_keep hown5 fun g hg => Below.heap_setCell w5 ⟨w.heap.size + 1 + 1, 2, none⟩ _ g (fun e => hn7 (by rw [hg]; exact congrArg some e.symm))
        have HZ3 := Lib.hid z3
        have HZ4 := Lib.hid z4
        clear hgk hgo hp1 hp2 hnx hk2 hown7 hs9 hs5 hHeld hs2 hs2' hsX hg5 hat5 z3 z4 hown5 hb35 hb25 hy5 yb5 fb5
        generalize (w5.setCell ⟨w.heap.size + 1 + 1, 2, none⟩ (.slice A5 (j + 1) c5)) = w9 at F1 f5 f6 f7 f8 ⊢
        refine wpAnyH_done (by kernel_rfl) ?_ _
        go_wp2
        refine ⟨⟨j + 1, q, dn ++ [⟨ak, an, at_, afs⟩], _, _, by go_num, by omega, by rw [List.length_append, HDj.out]; rfl, by rw [HGs.out]; simp, ?_, f6, f8, f7, by rw [List.map_append]; exact F1.out, f5⟩, by simp [intOf]; omega⟩
        rw [show (j + 1) * 4 = j * 4 + 4 by omega]
        exact hX4.out
      · skip
        go_simp
        refine HCall.out.mono ?_
        rintro e' w2 ⟨A2, c2, ys2, rfl, z1, z2, z3, z4⟩
        have hb32 := hb31.drew.below z4 (by have := hb31.lt; exact this)
        have hb22 := hb21.drew.below z4 (by have := hb21.lt; exact this)
        have hy2 := hy.drew.below z4 (by have := hy.lt; exact this)
        have yb3 : w2.cell? ⟨w.heap.size + 1 + 1, 2, none⟩ = some sv := by rw [hb32.cell]; rfl
        have yb3a : ∀ o, (w2.alloc o).cell? ⟨w.heap.size + 1 + 1, 2, none⟩ = some sv := fun o => by rw [(hb32.alloc o).cell]; rfl
        have hown2 := own_keep hown1 (fun g hg => z4.block g (hown1.lt g hg).2)
        have HZ1 := Lib.hid z1
        have HZ2 := Lib.hid z2
        clear z1 z2
        go_wp2_with fail
        refine hK.out _ _ (hy2) (fun hHeld => ?_)
        clear hK K
        try simp only [Act.put, List.setIfInBounds_toArray, List.set_cons_zero, List.set_cons_succ]
        refine wpAnyH_take (i := 11) (oi := ⟨_, _, _, _, _, _⟩) (v := ?_) rfl (by kernel_rfl) (by kernel_rfl) (by kernel_rfl) (fun _ _ _ h => h) (Or.inl ⟨by rfl, ?_⟩) hHeld ?_
        rotate_left
        · (intro w' hSw; go_simp; (try with_reducible rfl))
        try simp only [Act.put, List.setIfInBounds_toArray, List.set_cons_zero, List.set_cons_succ]
        refine wpAnyH_ready (rs := [1, 12]) (by kernel_rfl) (by simp) ?_
        refine (AllReadyH.cons (o := ⟨_, _, _, _, _, _⟩) rfl (fun K hK => ?_) (AllReadyH.cons (o := ⟨_, _, _, _, _, _⟩) rfl (fun K hK => ?_) AllReadyH.nil))
        · skip
          go_simp
          go_wp2_with fail
          refine hK.out _ _ (hy2) (fun hHeld => ?_)
          clear hK K
          try simp only [Act.put, List.setIfInBounds_toArray, List.set_cons_zero, List.set_cons_succ]
          refine wpAnyH_ready (rs := [12]) (by kernel_rfl) (by simp) ?_
          refine (AllReadyH.cons (o := ⟨_, _, _, _, _, _⟩) rfl (fun K hK => ?_) AllReadyH.nil)
          go_simp
          go_wp2_with fail
          refine hK.out _ _ (hy2.alloc _) (fun hHeld => ?_)
          clear hK K
          try simp only [Act.put, List.setIfInBounds_toArray, List.set_cons_zero, List.set_cons_succ]
          refine wpAnyH_ready (rs := [13]) (by kernel_rfl) (by simp) ?_
          refine (AllReadyH.cons (o := ⟨_, _, _, _, _, _⟩) rfl (fun K hK => ?_) AllReadyH.nil)
          refine step_append_src _ rfl (.tmp 19) (.tmp 30) 26 26 rfl (w.heap.size + 3) 45 i1 _ 4 56 under26 hi1 hz1 hs1 hb1 rfl sv j cs rfl (hown2.alloc _) (.slice (some ⟨w2.heap.size, 0, none⟩) 1 1) 1 (acells ak an at_ A2 (afs.cut 10 4000).len c2) rfl
            (src45 w2 ak an at_ A2 (afs.cut 10 4000).len c2) (by unfold maxLen; omega) (by omega) (by have := z4.size; have := hbel1.size; have := HS1.out; simp at *; omega) ?_
          intro v' w5 hown5 hg5 hat5
          obtain ⟨A5, c5, rfl⟩ := own_shape hown5
          have hnb3 : some (w.heap.size + 1 + 1) ≠ sv.ownBlock := fun e => by have := (HRow.out _ e.symm).1; omega
          have hnb2 : some (w.heap.size + 1) ≠ sv.ownBlock := fun e => by have := (HRow.out _ e.symm).1; omega
          have hnby : some wr.heap.size ≠ sv.ownBlock := fun e => by have := (HRow.out _ e.symm).2; omega
          have hb35 : Blk w5 (w.heap.size + 1 + 1) 28 #[.int .i64 cl, .int .i64 me, sv] := (hg5.block _ (by have := hb32.lt; simp; omega) hnb3).trans (hb32.alloc _)
          have hb25 : Blk w5 (w.heap.size + 1) 28 #[.int .i64 0, .int .i64 0, .slice none 0 0] := (hg5.block _ (by have := hb22.lt; simp; omega) hnb2).trans (hb22.alloc _)
          have hy5 := (hg5.block _ (by have := hy2.lt; simp; omega) hnby).trans (hy2.alloc (.cells (acells ak an at_ A2 (afs.cut 10 4000).len c2).toArray 45))
          have yb5 : w5.cell? ⟨w.heap.size + 1 + 1, 2, none⟩ = some sv := by rw [hb35.cell]; rfl
          have fb5 := hb35.frozen 2
          go_wp2_with fail
          refine hK.out _ _ (hy5) (fun hHeld => ?_)
          clear hK K
          try simp only [Act.put, List.setIfInBounds_toArray, List.set_cons_zero, List.set_cons_succ]
          refine wpAnyH_take (i := 14) (oi := ⟨_, _, _, _, _, _⟩) (v := ?_) rfl (by kernel_rfl) (by kernel_rfl) (by kernel_rfl) (fun _ _ _ h => h) (Or.inl ⟨by rfl, ?_⟩) hHeld ?_
          rotate_left
          · (intro w' hSw; go_simp; (try with_reducible rfl))
          try simp only [Act.put, List.setIfInBounds_toArray, List.set_cons_zero, List.set_cons_succ]
          refine wpAnyH_ready (rs := [15]) (by kernel_rfl) (by simp) ?_
          refine (AllReadyH.cons (o := ⟨_, _, _, _, _, _⟩) rfl (fun K hK => ?_) AllReadyH.nil)
          go_simp
          go_wp2_with fail
          refine hK.out _ _ ((Blk.far hy5 (by show wr.heap.size ≠ w.heap.size + 1 + 1; omega) _)) (fun hHeld => ?_)
          clear hK K
          try simp only [Act.put, List.setIfInBounds_toArray, List.set_cons_zero, List.set_cons_succ]
          have hs2 := z4.size
          have hs5 := hg5.size
          have hsX := HS1.out
          simp only [World.size_alloc] at hs5
          have hs9 : (w5.setCell ⟨w.heap.size + 1 + 1, 2, none⟩ (.slice A5 (j + 1) c5)).heap.size = w5.heap.size := by simp [World.setCell]
          have hs2' : wX.heap.size ≤ w2.heap.size := hs2
          have hown7 : ∀ x, x < w2.heap.size → some x ≠ sv.ownBlock → some x ≠ (Value.slice A5 (j + 1) c5).ownBlock := by
            intro x hx h
            rcases hat5 with e | e
            · rw [e]; exact h
            · rw [e]; simp; omega
          have hgk : ∀ g, g < w2.heap.size → some g ≠ sv.ownBlock → g ≠ w.heap.size + 1 + 1 → (w5.setCell ⟨w.heap.size + 1 + 1, 2, none⟩ (.slice A5 (j + 1) c5)).heap[g]? = w2.heap[g]? := fun g h1 h2 h3 =>
            (Below.heap_setCell w5 ⟨w.heap.size + 1 + 1, 2, none⟩ _ g h3).trans ((hg5.block g (by simp; omega) h2).trans (Below.heap_alloc _ _ _ h1))
          have hgo : ∀ g, (w.heap.size + 3 ≤ g ∧ g < wr.heap.size) ∧ some g ≠ sv.ownBlock → (w5.setCell ⟨w.heap.size + 1 + 1, 2, none⟩ (.slice A5 (j + 1) c5)).heap[g]? = wr.heap[g]? := by
            rintro g ⟨⟨h1, h2⟩, h3⟩
            exact (hgk g (by omega) h3 (by omega)).trans ((z4.block g (by show g < wX.heap.size; omega)).trans (HK1.out g h2))
          have hp1 : ∀ g, (w.heap.size + 3 ≤ g ∧ g < wr.heap.size) ∧ some g ≠ sv.ownBlock → (w.heap.size + 3 ≤ g ∧ g < (w5.setCell ⟨w.heap.size + 1 + 1, 2, none⟩ (.slice A5 (j + 1) c5)).heap.size) ∧ some g ≠ (Value.slice A5 (j + 1) c5).ownBlock := by
            rintro g ⟨⟨h1, h2⟩, h3⟩
            exact ⟨⟨h1, by rw [hs9]; omega⟩, hown7 g (by omega) h3⟩
          have hnx : ∀ g, New wX.drew w2 g → some g ≠ sv.ownBlock ∧ g ≠ w.heap.size + 1 + 1 := by
            rintro g ⟨h1, h2⟩
            have h1' : wX.heap.size ≤ g := h1
            refine ⟨fun e => ?_, by omega⟩
            have := (HRow.out g e.symm).2
            omega
          have hp2 : ∀ g, New wX.drew w2 g → (w.heap.size + 3 ≤ g ∧ g < (w5.setCell ⟨w.heap.size + 1 + 1, 2, none⟩ (.slice A5 (j + 1) c5)).heap.size) ∧ some g ≠ (Value.slice A5 (j + 1) c5).ownBlock := by
            intro g hg
            obtain ⟨h1, h2⟩ := hnx g hg
            have h1' : wX.heap.size ≤ g := hg.1
            exact ⟨⟨by omega, by rw [hs9]; have := hg.2; omega⟩, hown7 g hg.2 h1⟩
          have hk2 : ∀ g, New wX.drew w2 g → (w5.setCell ⟨w.heap.size + 1 + 1, 2, none⟩ (.slice A5 (j + 1) c5)).heap[g]? = w2.heap[g]? := fun g hg => hgk g hg.2 (hnx g hg).1 (hnx g hg).2
          have F1 := Lib.hid (AgsC.snoc (a := Ag.cut ⟨ak, an, at_, afs⟩) ⟨A2, c2, ys2, rfl, (HZ1.out.keep hk2).more hp2, (HZ2.out.keep hk2).more hp2, z3⟩ ((HCs.out.keep hgo).more hp1))
          have f5 : Below w.heap.size w (w5.setCell ⟨w.heap.size + 1 + 1, 2, none⟩ (.slice A5 (j + 1) c5)) := ((((hbel1.drew.trans (z4.mono hbel1.size)).alloc (by omega) _).grown hg5 (by simp; omega) (fun g hg => by have := (HRow.out g hg).1; omega)).setCell (by show w.heap.size ≤ w.heap.size + 1 + 1; omega) _)
          have f6 : Blk (w5.setCell ⟨w.heap.size + 1 + 1, 2, none⟩ (.slice A5 (j + 1) c5)) (w.heap.size + 1 + 1) 28 #[.int .i64 cl, .int .i64 me, .slice A5 (j + 1) c5] := by
            have := hb35.set_ 2 (.slice A5 (j + 1) c5); simpa using this
          have f8 : Blk (w5.setCell ⟨w.heap.size + 1 + 1, 2, none⟩ (.slice A5 (j + 1) c5)) (w.heap.size + 1) 28 #[.int .i64 0, .int .i64 0, .slice none 0 0] := hb25.far (by show w.heap.size + 1 ≠ w.heap.size + 1 + 1; omega) _
          have hn7 := hown7 (w.heap.size + 1 + 1) (by omega) hnb3
          have f7 : (w5.setCell ⟨w.heap.size + 1 + 1, 2, none⟩ (.slice A5 (j + 1) c5)).ownsRow (w.heap.size + 3) 45 4 (.slice A5 (j + 1) c5) (j + 1) (cs ++ acells ak an at_ A2 (afs.cut 10 4000).len c2) :=
            own_keep hown5 fun g hg => Below.heap_setCell w5 ⟨w.heap.size + 1 + 1, 2, none⟩ _ g (fun e => hn7 (by rw [hg]; exact congrArg some e.symm))
          have HZ3 := Lib.hid z3
          have HZ4 := Lib.hid z4
          clear hgk hgo hp1 hp2 hnx hk2 hown7 hs9 hs5 hHeld hs2 hs2' hsX hg5 hat5 z3 z4 hown5 hb35 hb25 hy5 yb5 fb5
          generalize (w5.setCell ⟨w.heap.size + 1 + 1, 2, none⟩ (.slice A5 (j + 1) c5)) = w9 at F1 f5 f6 f7 f8 ⊢
          refine wpAnyH_done (by kernel_rfl) ?_ _
          go_wp2
          refine ⟨⟨j + 1, q, dn ++ [⟨ak, an, at_, afs⟩], _, _, by go_num, by omega, by rw [List.length_append, HDj.out]; rfl, by rw [HGs.out]; simp, ?_, f6, f8, f7, by rw [List.map_append]; exact F1.out, f5⟩, by simp [intOf]; omega⟩
          rw [show (j + 1) * 4 = j * 4 + 4 by omega]
          exact hX4.out
        · skip
          go_simp
          go_wp2_with fail
          refine hK.out _ _ (hy2.alloc _) (fun hHeld => ?_)
          clear hK K
          try simp only [Act.put, List.setIfInBounds_toArray, List.set_cons_zero, List.set_cons_succ]
          refine wpAnyH_ready (rs := [1]) (by kernel_rfl) (by simp) ?_
          refine (AllReadyH.cons (o := ⟨_, _, _, _, _, _⟩) rfl (fun K hK => ?_) AllReadyH.nil)
          go_simp
          go_wp2_with fail
          refine hK.out _ _ (hy2.alloc _) (fun hHeld => ?_)
          clear hK K
          try simp only [Act.put, List.setIfInBounds_toArray, List.set_cons_zero, List.set_cons_succ]
          refine wpAnyH_ready (rs := [13]) (by kernel_rfl) (by simp) ?_
          refine (AllReadyH.cons (o := ⟨_, _, _, _, _, _⟩) rfl (fun K hK => ?_) AllReadyH.nil)
          refine step_append_src _ rfl (.tmp 19) (.tmp 30) 26 26 rfl (w.heap.size + 3) 45 i1 _ 4 56 under26 hi1 hz1 hs1 hb1 rfl sv j cs rfl (hown2.alloc _) (.slice (some ⟨w2.heap.size, 0, none⟩) 1 1) 1 (acells ak an at_ A2 (afs.cut 10 4000).len c2) rfl
            (src45 w2 ak an at_ A2 (afs.cut 10 4000).len c2) (by unfold maxLen; omega) (by omega) (by have := z4.size; have := hbel1.size; have := HS1.out; simp at *; omega) ?_
          intro v' w5 hown5 hg5 hat5
          obtain ⟨A5, c5, rfl⟩ := own_shape hown5
          have hnb3 : some (w.heap.size + 1 + 1) ≠ sv.ownBlock := fun e => by have := (HRow.out _ e.symm).1; omega
          have hnb2 : some (w.heap.size + 1) ≠ sv.ownBlock := fun e => by have := (HRow.out _ e.symm).1; omega
          have hnby : some wr.heap.size ≠ sv.ownBlock := fun e => by have := (HRow.out _ e.symm).2; omega
          have hb35 : Blk w5 (w.heap.size + 1 + 1) 28 #[.int .i64 cl, .int .i64 me, sv] := (hg5.block _ (by have := hb32.lt; simp; omega) hnb3).trans (hb32.alloc _)
          have hb25 : Blk w5 (w.heap.size + 1) 28 #[.int .i64 0, .int .i64 0, .slice none 0 0] := (hg5.block _ (by have := hb22.lt; simp; omega) hnb2).trans (hb22.alloc _)
          have hy5 := (hg5.block _ (by have := hy2.lt; simp; omega) hnby).trans (hy2.alloc (.cells (acells ak an at_ A2 (afs.cut 10 4000).len c2).toArray 45))
          have yb5 : w5.cell? ⟨w.heap.size + 1 + 1, 2, none⟩ = some sv := by rw [hb35.cell]; rfl
          have fb5 := hb35.frozen 2
          go_wp2_with fail
          refine hK.out _ _ (hy5) (fun hHeld => ?_)
          clear hK K
          try simp only [Act.put, List.setIfInBounds_toArray, List.set_cons_zero, List.set_cons_succ]
          refine wpAnyH_take (i := 14) (oi := ⟨_, _, _, _, _, _⟩) (v := ?_) rfl (by kernel_rfl) (by kernel_rfl) (by kernel_rfl) (fun _ _ _ h => h) (Or.inl ⟨by rfl, ?_⟩) hHeld ?_
          rotate_left
          · (intro w' hSw; go_simp; (try with_reducible rfl))
          try simp only [Act.put, List.setIfInBounds_toArray, List.set_cons_zero, List.set_cons_succ]
          refine wpAnyH_ready (rs := [15]) (by kernel_rfl) (by simp) ?_
          refine (AllReadyH.cons (o := ⟨_, _, _, _, _, _⟩) rfl (fun K hK => ?_) AllReadyH.nil)
          go_simp
          go_wp2_with fail
          refine hK.out _ _ ((Blk.far hy5 (by show wr.heap.size ≠ w.heap.size + 1 + 1; omega) _)) (fun hHeld => ?_)
          clear hK K
          try simp only [Act.put, List.setIfInBounds_toArray, List.set_cons_zero, List.set_cons_succ]
          have hs2 := z4.size
          have hs5 := hg5.size
          have hsX := HS1.out
          simp only [World.size_alloc] at hs5
          have hs9 : (w5.setCell ⟨w.heap.size + 1 + 1, 2, none⟩ (.slice A5 (j + 1) c5)).heap.size = w5.heap.size := by simp [World.setCell]
          have hs2' : wX.heap.size ≤ w2.heap.size := hs2
          have hown7 : ∀ x, x < w2.heap.size → some x ≠ sv.ownBlock → some x ≠ (Value.slice A5 (j + 1) c5).ownBlock := by
            intro x hx h
            rcases hat5 with e | e
            · rw [e]; exact h
            · rw [e]; simp; omega
          have hgk : ∀ g, g < w2.heap.size → some g ≠ sv.ownBlock → g ≠ w.heap.size + 1 + 1 → (w5.setCell ⟨w.heap.size + 1 + 1, 2, none⟩ (.slice A5 (j + 1) c5)).heap[g]? = w2.heap[g]? := fun g h1 h2 h3 =>
            (Below.heap_setCell w5 ⟨w.heap.size + 1 + 1, 2, none⟩ _ g h3).trans ((hg5.block g (by simp; omega) h2).trans (Below.heap_alloc _ _ _ h1))
          have hgo : ∀ g, (w.heap.size + 3 ≤ g ∧ g < wr.heap.size) ∧ some g ≠ sv.ownBlock → (w5.setCell ⟨w.heap.size + 1 + 1, 2, none⟩ (.slice A5 (j + 1) c5)).heap[g]? = wr.heap[g]? := by
            rintro g ⟨⟨h1, h2⟩, h3⟩
            exact (hgk g (by omega) h3 (by omega)).trans ((z4.block g (by show g < wX.heap.size; omega)).trans (HK1.out g h2))
          have hp1 : ∀ g, (w.heap.size + 3 ≤ g ∧ g < wr.heap.size) ∧ some g ≠ sv.ownBlock → (w.heap.size + 3 ≤ g ∧ g < (w5.setCell ⟨w.heap.size + 1 + 1, 2, none⟩ (.slice A5 (j + 1) c5)).heap.size) ∧ some g ≠ (Value.slice A5 (j + 1) c5).ownBlock := by
            rintro g ⟨⟨h1, h2⟩, h3⟩
            exact ⟨⟨h1, by rw [hs9]; omega⟩, hown7 g (by omega) h3⟩
          have hnx : ∀ g, New wX.drew w2 g → some g ≠ sv.ownBlock ∧ g ≠ w.heap.size + 1 + 1 := by
            rintro g ⟨h1, h2⟩
            have h1' : wX.heap.size ≤ g := h1
            refine ⟨fun e => ?_, by omega⟩
            have := (HRow.out g e.symm).2
            omega
          have hp2 : ∀ g, New wX.drew w2 g → (w.heap.size + 3 ≤ g ∧ g < (w5.setCell ⟨w.heap.size + 1 + 1, 2, none⟩ (.slice A5 (j + 1) c5)).heap.size) ∧ some g ≠ (Value.slice A5 (j + 1) c5).ownBlock := by
            intro g hg
            obtain ⟨h1, h2⟩ := hnx g hg
            have h1' : wX.heap.size ≤ g := hg.1
            exact ⟨⟨by omega, by rw [hs9]; have := hg.2; omega⟩, hown7 g hg.2 h1⟩
          have hk2 : ∀ g, New wX.drew w2 g → (w5.setCell ⟨w.heap.size + 1 + 1, 2, none⟩ (.slice A5 (j + 1) c5)).heap[g]? = w2.heap[g]? := fun g hg => hgk g hg.2 (hnx g hg).1 (hnx g hg).2
          have F1 := Lib.hid (AgsC.snoc (a := Ag.cut ⟨ak, an, at_, afs⟩) ⟨A2, c2, ys2, rfl, (HZ1.out.keep hk2).more hp2, (HZ2.out.keep hk2).more hp2, z3⟩ ((HCs.out.keep hgo).more hp1))
          have f5 : Below w.heap.size w (w5.setCell ⟨w.heap.size + 1 + 1, 2, none⟩ (.slice A5 (j + 1) c5)) := ((((hbel1.drew.trans (z4.mono hbel1.size)).alloc (by omega) _).grown hg5 (by simp; omega) (fun g hg => by have := (HRow.out g hg).1; omega)).setCell (by show w.heap.size ≤ w.heap.size + 1 + 1; omega) _)
          have f6 : Blk (w5.setCell ⟨w.heap.size + 1 + 1, 2, none⟩ (.slice A5 (j + 1) c5)) (w.heap.size + 1 + 1) 28 #[.int .i64 cl, .int .i64 me, .slice A5 (j + 1) c5] := by
            have := hb35.set_ 2 (.slice A5 (j + 1) c5); simpa using this
          have f8 : Blk (w5.setCell ⟨w.heap.size + 1 + 1, 2, none⟩ (.slice A5 (j + 1) c5)) (w.heap.size + 1) 28 #[.int .i64 0, .int .i64 0, .slice none 0 0] := hb25.far (by show w.heap.size + 1 ≠ w.heap.size + 1 + 1; omega) _
          have hn7 := hown7 (w.heap.size + 1 + 1) (by omega) hnb3
          have f7 : (w5.setCell ⟨w.heap.size + 1 + 1, 2, none⟩ (.slice A5 (j + 1) c5)).ownsRow (w.heap.size + 3) 45 4 (.slice A5 (j + 1) c5) (j + 1) (cs ++ acells ak an at_ A2 (afs.cut 10 4000).len c2) :=
            own_keep hown5 fun g hg => Below.heap_setCell w5 ⟨w.heap.size + 1 + 1, 2, none⟩ _ g (fun e => hn7 (by rw [hg]; exact congrArg some e.symm))
          have HZ3 := Lib.hid z3
          have HZ4 := Lib.hid z4
          clear hgk hgo hp1 hp2 hnx hk2 hown7 hs9 hs5 hHeld hs2 hs2' hsX hg5 hat5 z3 z4 hown5 hb35 hb25 hy5 yb5 fb5
          generalize (w5.setCell ⟨w.heap.size + 1 + 1, 2, none⟩ (.slice A5 (j + 1) c5)) = w9 at F1 f5 f6 f7 f8 ⊢
          refine wpAnyH_done (by kernel_rfl) ?_ _
          go_wp2
          refine ⟨⟨j + 1, q, dn ++ [⟨ak, an, at_, afs⟩], _, _, by go_num, by omega, by rw [List.length_append, HDj.out]; rfl, by rw [HGs.out]; simp, ?_, f6, f8, f7, by rw [List.map_append]; exact F1.out, f5⟩, by simp [intOf]; omega⟩
          rw [show (j + 1) * 4 = j * 4 + 4 by omega]
          exact hX4.out

end Go.Proofs.YtabeppaehenefaaGreat
