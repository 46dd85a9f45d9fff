/-
  FnTableRead: fields that are sorted by their names: the sort gives the one growing order; what the row reads as behind it.
-/
import Derived.Test.YtkcdakohmfodjaaNr
import Derived.Test.YtkcdakohmfodjaaCuts
import Derived.Shelf.SlSortCmp.WholeK
namespace Go.Proofs.Ytkcdakohmfodjaa
open Go.RowKit Go.Sort Go.Shelf

/-- a field as it lies in a row: its name, what its value reads as, its value's cells -/
structure R8 where
  name : ByteArray
  v : V
  k : Int
  n : Int
  f : Nat
  s : Int
  t : ByteArray
  a1 : Option Addr
  n1 : Nat
  c1 : Nat
  a2 : Option Addr
  n2 : Nat
  c2 : Nat
def R8.cells (x : R8) : List Value := vcells x.k x.n x.f x.s x.t x.a1 x.n1 x.c1 x.a2 x.n2 x.c2
def R8.enc (x : R8) : List Value := .string x.name :: x.cells
instance : Inhabited R8 := ⟨⟨⟨#[]⟩, zeroV, 0, 0, 0, 0, ⟨#[]⟩, none, 0, 0, none, 0, 0⟩⟩
theorem R8.enc_len (x : R8) : x.enc.length = 8 := rfl
theorem R8.enc_one (x : R8) : ∀ u ∈ x.enc, u.oneCell' = true := by
  intro u hu
  simp [R8.enc, R8.cells] at hu
  rcases hu with rfl | rfl | rfl | rfl | rfl | rfl | rfl | rfl <;> rfl

def Fs.toL : Fs → List (ByteArray × V)
  | .nil => []
  | .cons n v r => (n, v) :: r.toL
def Fs.nms : Fs → List (List UInt8)
  | .nil => []
  | .cons n _ r => n.data.toList :: r.nms
theorem Fs.toL_nms : ∀ fs : Fs, fs.toL.map (fun x => x.1.data.toList) = fs.nms
  | .nil => rfl
  | .cons n v r => by rw [Fs.toL, Fs.nms, List.map_cons, Fs.toL_nms r]

def cf8 (x y : R8) : Int := if x.name.data.toList < y.name.data.toList then -1 else 1
theorem lt8 (x y : R8) : ltOf cf8 x y = decide (x.name.data.toList < y.name.data.toList) := by
  unfold ltOf cf8
  by_cases h : x.name.data.toList < y.name.data.toList <;> simp [h]
theorem swo8 : SWO (ltOf cf8) where
  irrefl x := by rw [lt8]; simp
  trans x y z h1 h2 := by
    rw [lt8, decide_eq_true_eq] at *
    exact List.lt_trans h1 h2
  ntrans x y z h1 h2 := by
    rw [lt8, decide_eq_false_iff_not] at *
    exact List.not_lt.2 (List.le_trans (List.not_lt.1 h2) (List.not_lt.1 h1))

theorem perm_whole {d d' : Array R8} (hp : PermIn 0 d.size d d') : d'.size = d.size ∧ d'.toList.Perm d.toList := by
  obtain ⟨hsz, _, hperm⟩ := hp
  have e1 : d'.extract 0 d.size = d' := by rw [← hsz]; exact Array.extract_size
  rw [e1, Array.extract_size] at hperm
  exact ⟨hsz, hperm⟩

/-- the sort of a table's rows gives the table's own order -/
theorem sorted_rows {fs : Fs} (hg : fs.nms.Pairwise (· < ·)) (d d' : Array R8) (hn : (d.toList.map (fun x => x.name.data.toList)).Perm fs.nms) (hm : ∀ x ∈ d.toList, (x.name, x.v) ∈ fs.toL)
    (hp : PermIn 0 d.size d d') (hs : SortedIn (ltOf cf8) 0 d.size d') : d'.toList.map (fun x => (x.name, x.v)) = fs.toL ∧ d'.size = d.size ∧ d'.toList.Perm d.toList := by
  obtain ⟨hsz, hperm⟩ := perm_whole hp
  refine ⟨?_, hsz, hperm⟩
  have hnames : d'.toList.map (fun x => x.name.data.toList) = fs.nms := by
    refine List.Perm.eq_of_pairwise (le := fun x y => ¬ y < x) ?_ ?_ ?_ ((hperm.map _).trans hn)
    · intro a b _ _ h1 h2
      exact List.le_antisymm (List.not_lt.1 h1) (List.not_lt.1 h2)
    · rw [List.pairwise_map, List.pairwise_iff_getElem]
      intro i j hi hj hij
      have hi' : i < d'.size := by simpa using hi
      have hj' : j < d'.size := by simpa using hj
      have := hs i j (Nat.zero_le _) hij (by omega)
      rw [lt8, getElem!_pos d' j hj', getElem!_pos d' i hi', decide_eq_false_iff_not] at this
      simpa using this
    · exact hg.imp fun h => List.lt_asymm h
  have hlen : d'.toList.length = fs.toL.length := by
    have := congrArg List.length hnames
    rw [← Fs.toL_nms, List.length_map, List.length_map] at this
    exact this
  apply List.ext_getElem (by rw [List.length_map]; exact hlen)
  intro i h1 h2
  rw [List.getElem_map]
  have hi : i < d'.toList.length := by rw [hlen]; exact h2
  have hmem : (d'.toList[i].name, d'.toList[i].v) ∈ fs.toL := hm _ (hperm.mem_iff.1 (List.getElem_mem hi))
  obtain ⟨j, hj, hje⟩ := List.getElem_of_mem hmem
  have e1 : fs.nms[i]? = some d'.toList[i].name.data.toList := by rw [← hnames, List.getElem?_map, List.getElem?_eq_getElem hi]; rfl
  have e2 : fs.nms[j]? = some d'.toList[i].name.data.toList := by rw [← Fs.toL_nms, List.getElem?_map, List.getElem?_eq_getElem hj, hje]; rfl
  have hij : i = j := by
    obtain ⟨i1, i2⟩ := List.getElem?_eq_some_iff.1 e1
    obtain ⟨j1, j2⟩ := List.getElem?_eq_some_iff.1 e2
    have hp := List.pairwise_iff_getElem.1 hg
    rcases Nat.lt_trichotomy i j with h | h | h
    · have := hp i j i1 j1 h
      rw [i2, j2] at this
      exact absurd this (List.lt_irrefl _)
    · exact h
    · have := hp j i j1 i1 h
      rw [i2, j2] at this
      exact absurd this (List.lt_irrefl _)
  subst hij
  exact hje.symm

/-- rows in a table's order read as the table -/
theorem FsC.of_rows {w : World} {p : Nat → Prop} : ∀ (l : List R8) (fs : Fs), l.map (fun x => (x.name, x.v)) = fs.toL → (∀ x ∈ l, RdV w p x.v x.cells) → FsC w p fs (l.flatMap R8.enc)
  | [], .nil, _, _ => by rw [FsC]; rfl
  | [], .cons n v r, h, _ => by simp [Fs.toL] at h
  | x :: l, .nil, h, _ => by simp [Fs.toL] at h
  | x :: l, .cons n v r, h, hr => by
    rw [Fs.toL, List.map_cons] at h
    injection h with h1 h2
    injection h1 with h1 h3
    subst h1 h3
    rw [FsC]
    exact ⟨x.cells, l.flatMap R8.enc, rfl, hr x List.mem_cons_self, FsC.of_rows l r h2 (fun y hy => hr y (List.mem_cons_of_mem _ hy))⟩

theorem flat_get : ∀ (l : List R8) (t : Nat), t < l.length * 8 → (l.flatMap R8.enc)[t]? = some (R8.enc l[t / 8]!)[t % 8]!
  | [], t, h => by simp at h
  | x :: l, t, h => by
    rw [List.flatMap_cons]
    by_cases ht : t < 8
    · have e1 : t / 8 = 0 := by omega
      have e2 : t % 8 = t := by omega
      rw [List.getElem?_append_left (by rw [R8.enc_len]; exact ht), e1, e2]
      have e3 : (x :: l)[0]! = x := rfl
      rw [e3, List.getElem?_eq_getElem (by rw [R8.enc_len]; exact ht), getElem!_pos _ _ (by rw [R8.enc_len]; exact ht)]
    · rw [List.getElem?_append_right (by rw [R8.enc_len]; omega), R8.enc_len, flat_get l (t - 8) (by rw [List.length_cons] at h; omega)]
      have e1 : t / 8 = (t - 8) / 8 + 1 := by omega
      have e2 : (t - 8) % 8 = t % 8 := by omega
      have e3 : (x :: l)[(t - 8) / 8 + 1]! = l[(t - 8) / 8]! := rfl
      rw [e1, e2, e3]

theorem flat_len (l : List R8) : (l.flatMap R8.enc).length = l.length * 8 := by
  induction l with
  | nil => rfl
  | cons x l ih => rw [List.flatMap_cons, List.length_append, ih, R8.enc_len, List.length_cons]; omega

theorem flat_bang (l : List R8) (t : Nat) (h : t < l.length * 8) : (flatK R8.enc 8 l.toArray)[t]! = (R8.enc l[t / 8]!)[t % 8]! := by
  rw [get_flatK _ _ _ t (by simpa using h)]
  simp

/-- an own row of fields holds what the sort wants -/
theorem holds_rows {w : World} {base g cap : Nat} {e : TypeId} {l : List R8} (h : w.ownsRow base e 8 (.slice (some ⟨g, 0, none⟩) l.length cap) l.length (l.flatMap R8.enc)) : HoldsK R8.enc 8 w g 0 l.toArray := by
  rcases h.2 with ⟨e1, _⟩ | ⟨g', cap', cur, e1, hg, hh, h1, h2, h3, h4⟩
  · cases e1
  · injection e1 with e1 _ _
    injection e1 with e1
    injection e1 with e1
    subst e1
    intro j hj
    have hj' : j < l.length * 8 := by simpa using hj
    refine ⟨?_, by simp [World.frozen?, hh]⟩
    have hx : (cur.toList.take (l.length * 8))[j]? = (l.flatMap R8.enc)[j]? := by rw [h4]
    rw [List.getElem?_take_of_lt hj', flat_get l j hj', Array.getElem?_toList] at hx
    have hc := cell_of_row w g (0 + j) cur e (0, 0) hh
    rw [hc, Nat.zero_add, hx]
    show _ = some (id _)
    rw [id, flat_bang l j hj']

theorem grownBy_sortedK {w : World} {g n : Nat} {os : Array Obj} (d : Array R8) : w.grownBy (sortWorldK R8.enc 8 w g 0 n d os) (some g) := by
  refine ⟨rfl, rfl, rfl, by simp [sortWorldK, grow, putRowK, putRow, mapBlock, Sort.ahead], fun k hk hne => ?_⟩
  have : g ≠ k := fun e => hne (by rw [e])
  unfold sortWorldK
  rw [heap_grow_old _ _ (by simpa [putRowK, putRow, mapBlock, Sort.ahead] using hk)]
  simp [putRowK, putRow, mapBlock, Sort.ahead, Array.getElem?_modify, this]

/-- what the row reads as behind the sort -/
theorem rd_sorted {w : World} {p : Nat → Prop} {g n : Nat} {os : Array Obj} {l : List R8} (d' : Array R8) (hH : HoldsK R8.enc 8 w g 0 l.toArray) (hg : g < w.heap.size) (hs : d'.size = l.length) (hp : p g) :
    Rd (sortWorldK R8.enc 8 w g 0 n d' os) p (some ⟨g, 0, none⟩) (d'.toList.flatMap R8.enc) := by
  intro _
  refine ⟨g, 0, rfl, hp, fun j u hu => ?_⟩
  have hH' := holdsK_sortWorldK_c R8.enc 8 w g 0 l.toArray d' n os hH hg (by simpa using hs)
  have hj : j < d'.toList.length * 8 := by
    have := (List.getElem?_eq_some_iff.1 hu).1
    rwa [flat_len] at this
  have := (hH' j (by simpa using hj)).1
  rw [flat_get _ _ hj] at hu
  have hfb := flat_bang d'.toList j hj
  rw [Array.toArray_toList] at hfb
  rw [this, ← hu]
  show some (id _) = _
  rw [id, hfb]

end Go.Proofs.Ytkcdakohmfodjaa
