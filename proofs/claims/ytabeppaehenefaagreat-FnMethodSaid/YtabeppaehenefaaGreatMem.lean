/-
  Words for memory: a slice that reads as a list of bytes, a variable that holds a slice of bytes of the call's own, and what a writer may change.
-/
import Derived.WalkKit
import Derived.Deep.AppendSrc
import Derived.Maps.AppendAt
import Derived.Deep.Draws
import Derived.Test.YtabeppaehenefaaGreatData
namespace Go.Proofs.YtabeppaehenefaaGreat
open Go.RowKit

/-- bytes as cells -/
def bcells (l : List UInt8) : List Value := l.map fun b => Value.int .u8 (b.toNat : Int)

theorem bcells_length (l : List UInt8) : (bcells l).length = l.length := by simp [bcells]
theorem bcells_append (a b : List UInt8) : bcells (a ++ b) = bcells a ++ bcells b := by simp [bcells]
theorem bcells_one (l : List UInt8) : ∀ u ∈ bcells l, u.oneCell' = true := by
  intro u hu
  obtain ⟨_, _, rfl⟩ := List.mem_map.1 hu
  rfl
theorem byteCells_eq (s : ByteArray) : byteCells s = bcells s.data.toList := rfl

theorem block_of_add (a : Addr) (n : Nat) : (a.add n).block = a.block := by unfold Addr.add; split <;> rfl
theorem add_of_add (a : Addr) (i j : Nat) : (a.add i).add j = a.add (i + j) := by
  unfold Addr.add
  by_cases hi : i = 0 <;> by_cases hj : j = 0 <;> simp [hi, hj, Nat.add_assoc]

/-- the block is just these cells, none frozen -/
def Blk (w : World) (g : Nat) (t : TypeId) (cs : Array Value) : Prop := w.heap[g]? = some (.cells cs t (0, 0))

section
variable {w w' : World} {g : Nat} {t : TypeId} {cs : Array Value}
theorem Blk.lt (h : Blk w g t cs) : g < w.heap.size := by
  rcases Nat.lt_or_ge g w.heap.size with hlt | hge
  · exact hlt
  · unfold Blk at h; rw [Array.getElem?_eq_none hge] at h; cases h
theorem Blk.cell (h : Blk w g t cs) (i : Nat) : w.cell? ⟨g, i, none⟩ = cs[i]? := cell_of_row w g i cs t (0, 0) h
theorem Blk.frozen (h : Blk w g t cs) (i : Nat) : w.frozen? ⟨g, i, none⟩ = false := by
  unfold Blk at h
  simp [World.frozen?, h]
theorem Blk.new (w : World) (t : TypeId) (cs : Array Value) : Blk (w.alloc (.cells cs t)) w.heap.size t cs := heap_alloc_new w _
theorem Blk.drew (h : Blk w g t cs) : Blk w.drew g t cs := h
theorem Blk.drewN (h : Blk w g t cs) (n : Nat) : Blk (w.drewN n) g t cs := h
theorem Blk.alloc (h : Blk w g t cs) (o : Obj) : Blk (w.alloc o) g t cs := (Below.heap_alloc w o g h.lt).trans h
theorem Blk.set_ (h : Blk w g t cs) (i : Nat) (u : Value) : Blk (w.setCell ⟨g, i, none⟩ u) g t (cs.setIfInBounds i u) := by
  unfold Blk at h ⊢
  simp [World.setCell, Array.getElem?_modify, h]
theorem Blk.far (h : Blk w g t cs) {p : Addr} (hp : g ≠ p.block) (u : Value) : Blk (w.setCell p u) g t cs := (Below.heap_setCell w p u g hp).trans h
theorem Blk.below {B : Nat} (h : Blk w g t cs) (hb : Below B w w') (hg : g < B) : Blk w' g t cs := (hb.block g hg).trans h
theorem Blk.ne_ {g' : Nat} {t' : TypeId} {cs' : Array Value} (h : Blk w g t cs) (h' : Blk w g' t' cs') (hne : t ≠ t') : g ≠ g' := by
  rintro rfl
  unfold Blk at h h'
  rw [h] at h'
  injection h' with h'
  injection h' with _ ht
  exact hne ht
theorem own_blk_ne {base : Nat} {e : TypeId} {size n : Nat} {v : Value} {xs : List Value} (h : w.ownsRow base e size v n xs) (hg : Blk w g t cs) (hne : e ≠ t) : v.ownBlock ≠ some g := by
  rcases h.2 with ⟨rfl, _⟩ | ⟨g', cap, cur, rfl, _, hh, _⟩
  · simp [Value.ownBlock]
  · intro he
    have : g' = g := by simpa [Value.ownBlock] using he
    subst this
    exact Blk.ne_ (t := e) hh hg hne rfl
end

/-- A slice value that reads as these bytes; all of it lies below block B. -/
def Rb (w : World) (B : Nat) (v : Value) (xs : List UInt8) : Prop :=
  ∃ A c, v = .slice A xs.length c ∧ xs.length ≤ c ∧ (0 < xs.length → ∃ ad, A = some ad ∧ ad.block < B ∧ ∀ j u, (bcells xs)[j]? = some u → w.cell? (ad.add j) = some u)

section
variable {w w' : World} {B B' : Nat} {v : Value} {xs : List UInt8}
theorem Rb.keep (h : Rb w B v xs) (hk : ∀ p : Addr, p.block < B → w'.cell? p = w.cell? p) : Rb w' B v xs := by
  obtain ⟨A, c, e, hc, hr⟩ := h
  exact ⟨A, c, e, hc, fun hn => by
    obtain ⟨ad, ea, hb, hx⟩ := hr hn
    exact ⟨ad, ea, hb, fun j u hu => (hk _ (by rw [block_of_add]; exact hb)).trans (hx j u hu)⟩⟩
theorem Rb.more (h : Rb w B v xs) (hB : B ≤ B') : Rb w B' v xs := by
  obtain ⟨A, c, e, hc, hr⟩ := h
  exact ⟨A, c, e, hc, fun hn => by
    obtain ⟨ad, ea, hb, hx⟩ := hr hn
    exact ⟨ad, ea, by omega, hx⟩⟩
theorem Rb.below (h : Rb w B v xs) (hb : Below B w w') : Rb w' B v xs := h.keep fun _ hp => hb.cell hp
theorem Rb.drew (h : Rb w B v xs) : Rb w.drew B v xs := h
theorem Rb.drewN (h : Rb w B v xs) (k : Nat) : Rb (w.drewN k) B v xs := h
theorem Rb.alloc (h : Rb w B v xs) (hB : B ≤ w.heap.size) (o : Obj) : Rb (w.alloc o) B v xs := h.keep fun p hp => World.cell?_alloc_lt w o p (by omega)
theorem Rb.setCell (h : Rb w B v xs) {p : Addr} (hB : B ≤ p.block) (u : Value) : Rb (w.setCell p u) B v xs :=
  h.keep fun q hq => World.cell?_setCell_other w p q u (fun e => by subst e; omega)
theorem Rb.of_own {base : Nat} (h : w.ownsRow base 5 1 v xs.length (bcells xs)) : Rb w w.heap.size v xs := by
  rcases h.2 with ⟨rfl, h0⟩ | ⟨g, cap, cur, rfl, _, hg, hc, _⟩
  · exact ⟨none, 0, by rw [h0], by omega, fun hn => by omega⟩
  · exact ⟨_, cap, rfl, hc, fun _ => ⟨_, rfl, (Array.getElem?_eq_some_iff.1 hg).1, h.cells (g := g) rfl⟩⟩
theorem Rb.nil (w : World) (B c : Nat) (A : Option Addr) : Rb w B (.slice A 0 c) [] := ⟨A, c, rfl, Nat.zero_le _, fun h => by simp at h⟩
/-- what an append takes of it -/
theorem Rb.src {P : Program} {tx e' : TypeId} (hk : P.underlying tx = some (.slice e')) (h : Rb w B v xs) : Src P 1 tx v xs.length (bcells xs) w := by
  obtain ⟨A, c, rfl, hc, hr⟩ := h
  rcases A with _ | ad
  · have h0 : xs = [] := by
      rcases Nat.eq_zero_or_pos xs.length with h0 | h0
      · exact List.eq_nil_of_length_eq_zero h0
      · obtain ⟨ad, h, _⟩ := hr h0; cases h
    subst h0
    exact Src.ofNil w hk c
  · refine Src.ofSlice w hk ad xs.length c (bcells xs) (by simp [bcells]) ?_ (bcells_one xs)
    intro j u hu
    have hpos : 0 < xs.length := by
      have := (List.getElem?_eq_some_iff.1 hu).1
      simp [bcells] at this
      omega
    obtain ⟨ad', h, _, hx⟩ := hr hpos
    injection h with h
    subst h
    exact hx j u hu
end

theorem bcells_nil : bcells [] = [] := rfl
theorem bcells_cons (n : Nat) (l : List UInt8) : bcells (UInt8.ofNat n :: l) = Value.int .u8 ((n % 256 : Nat) : Int) :: bcells l := by simp [bcells]
theorem Rb.of_blk {w : World} {g B c : Nat} {t : TypeId} {xs : List UInt8} (h : Blk w g t (bcells xs).toArray) (hg : g < B) (hc : xs.length ≤ c) : Rb w B (.slice (some ⟨g, 0, none⟩) xs.length c) xs :=
  ⟨_, c, rfl, hc, fun _ => ⟨_, rfl, hg, fun j u hu => by
    have hadd : (⟨g, 0, none⟩ : Addr).add j = ⟨g, j, none⟩ := by unfold Addr.add; split <;> simp_all
    rw [hadd, h.cell j]
    simpa using hu⟩⟩

/-- append onto a slice of the call's own, whatever is appended; where the new row lies -/
theorem run_append_src (P : Program) (w : World) (base : Nat) (t tx ty e : TypeId) (i : TypeInfo) (z : Value) (size bytes : Nat) (ht : P.underlying t = some (.slice e)) (hi : P.info? e = some i) (hz : i.zero = some z)
    (hsize : i.size = size) (hby : i.bytes = bytes) (hzs : z.cells.size = size)
    (v : Value) (n : Nat) (xs : List Value) (hown : w.ownsRow base e size v n xs)
    (x : Value) (m : Nat) (news : List Value) (hsrc : Src P size tx x m news w)
    (h63 : n + m ≤ maxLen) (hbytes : (n + m) * bytes ≤ 140737488355328) (hbase : base ≤ w.heap.size) :
    ∃ v' w', (Builtin.append_ #[t, tx] ty #[v, x]).run P w = .ok v' w' ∧ w'.ownsRow base e size v' (n + m) (xs ++ news) ∧ w.grownBy w' v.ownBlock ∧
      (v'.ownBlock = v.ownBlock ∨ v'.ownBlock = some w.heap.size) ∧ (0 < n + m → ∃ g cap, v' = .slice (some ⟨g, 0, none⟩) (n + m) cap) := by
  subst hsize
  subst hby
  have hl := hsrc.newsLen
  have hsmall : n + m ≤ 9223372036854775807 := by simp only [maxLen] at h63; omega
  have hlen : (xs ++ news).length = (n + m) * i.size := by rw [List.length_append, hown.1, hl, Nat.add_mul]
  have grown : ∀ (old : Nat), old < n + m → ∀ (row : Option Nat),
      (w.drew.alloc (.cells ((xs ++ news).toArray ++ Builtin.zeroCells z.cells (grownCap w (n + m) old e - (n + m))) e)).ownsRow base e i.size
        (.slice (some ⟨w.heap.size, 0, none⟩) (n + m) (grownCap w (n + m) old e)) (n + m) (xs ++ news) ∧
      w.grownBy (w.drew.alloc (.cells ((xs ++ news).toArray ++ Builtin.zeroCells z.cells (grownCap w (n + m) old e - (n + m))) e)) row := by
    intro old ho row
    have hge := grownCap_ge w (n + m) old e
    have hcm : grownCap w (n + m) old e ≤ maxLen := grownCap_le_maxLen w (n + m) old e h63
    refine ⟨⟨hlen, .inr ⟨w.heap.size, _, _, rfl, hbase, heap_alloc_new w.drew _, hge, hcm, ?_, ?_⟩⟩, ⟨rfl, rfl, rfl, by simp, fun k hk _ => Below.heap_alloc w.drew _ k hk⟩⟩
    · simp only [Array.size_append, List.size_toArray, size_zeroCells, hzs, hlen, ← Nat.add_mul]
      congr 1
      omega
    · simp only [Array.toList_append]
      rw [← hlen]
      exact List.take_left
  rcases hown.2 with ⟨rfl, rfl⟩ | ⟨g, cap, cur, rfl, hbg, hg, hnc, hcm, hcs, htake⟩
  · have hx : xs = [] := List.eq_nil_of_length_eq_zero (by simpa using hown.1)
    subst hx
    by_cases hm : m = 0
    · subst hm
      have hn : news = [] := List.eq_nil_of_length_eq_zero (by simpa using hl)
      subst hn
      refine ⟨.slice none 0 0, w, ?_, World.ownsRow_nil w base e i.size, ⟨rfl, rfl, rfl, Nat.le_refl _, fun _ _ _ => rfl⟩, .inl rfl, fun h => by omega⟩
      rcases hsrc.kind with ⟨e', hk⟩ | hk <;>
        simp [Builtin.append_, run_underlying ht, run_underlying hk, sizeOf, typeInfo, hi, hsrc.len, hsrc.cells]
    · have hr := run_append_grow_src (P := P) w t tx ty e i z ht hi hz none 0 0 [] (run_firstCells_none w.drew i.size 0 0 0) x m news hsrc (by omega) (by omega) (growslice_fits (by omega) hbytes)
      have hgr := grown 0 (by omega) (Value.ownBlock (.slice none 0 0))
      exact ⟨_, _, hr, hgr.1, hgr.2, .inr rfl, fun _ => ⟨_, _, rfl⟩⟩
  · by_cases hroom : n + m ≤ cap
    · have hfit : n * i.size + news.length ≤ cur.size := by rw [hl, hcs, ← Nat.add_mul]; exact Nat.mul_le_mul_right _ hroom
      have hc : ∀ j, j < news.length → (w.cell? ⟨g, 0 + n * i.size + j, none⟩).isSome = true := by
        intro j hj
        rw [cell_of_row w g _ cur e (0, 0) hg]
        simp
        omega
      have hf : ∀ j, j < news.length → w.frozen? ⟨g, 0 + n * i.size + j, none⟩ = false := by
        intro j _
        exact Blk.frozen (t := e) hg _
      have hst := run_storeCells_at P g (n * i.size) e news 0 cur w hg (by simpa using hfit) hsrc.one
      simp only [Nat.add_zero] at hst
      have hr : (Builtin.append_ #[t, tx] ty #[.slice (some ⟨g, 0, none⟩) n cap, x]).run P w =
          .ok (.slice (some ⟨g, 0, none⟩) (n + m) cap) (w.setRow g (cur.toList.take (n * i.size) ++ news ++ cur.toList.drop (n * i.size + news.length)).toArray) := by
        rcases hsrc.kind with ⟨e', hk⟩ | hk <;> simp [Builtin.append_, run_underlying ht, run_underlying hk, sizeOf, typeInfo, hi, hsrc.len, hroom, hsrc.cells, Addr.add_lit, hst]
      refine ⟨_, _, hr, ⟨hlen, .inr ⟨g, cap, _, rfl, hbg, setRow_heap w g cur _ e _ hg, hroom, hcm, ?_, ?_⟩⟩, ⟨rfl, rfl, rfl, by simp, fun k _ hk => setRow_other w g k _ (fun e => hk (by simp [Value.ownBlock, e]))⟩, .inl rfl, fun _ => ⟨_, _, rfl⟩⟩
      · simp only [List.size_toArray, List.length_append, List.length_take, List.length_drop, Array.length_toList]
        omega
      · rw [htake, ← hlen]
        exact List.take_left
    · have holds : ∀ j u, xs[j]? = some u → w.cell? ((⟨g, 0, none⟩ : Addr).add j) = some u := hown.cells (g := g) rfl
      have hr := run_append_grow_src (P := P) w t tx ty e i z ht hi hz (some ⟨g, 0, none⟩) n cap xs (run_firstCells_some w.drew i.size n ⟨g, 0, none⟩ n cap xs hown.1 (by simpa using holds)) x m news hsrc (by omega) (by omega) (growslice_fits (by omega) hbytes)
      have hgr := grown cap (by omega) (Value.ownBlock (.slice (some ⟨g, 0, none⟩) n cap))
      exact ⟨_, _, hr, hgr.1, hgr.2, .inr rfl, fun _ => ⟨_, _, rfl⟩⟩

section
variable {P : Program} (w : World)
theorem wp_append_src {o : Oper} {a : Act} {K : Act → World → Prop} {Q : Exit → Act → World → Prop} (s x : Operand) (t tx : TypeId)
    (ho : o.op = .call { callee := .builtin .append, args := #[s, x], argTypes := #[t, tx] })
    (base : Nat) (e : TypeId) (i : TypeInfo) (z : Value) (size bytes : Nat) (ht : P.underlying t = some (.slice e)) (hi : P.info? e = some i) (hz : i.zero = some z)
    (hsize : i.size = size) (hby : i.bytes = bytes) (hzs : z.cells.size = size)
    (v : Value) (n : Nat) (xs : List Value) (hs : a.eval s = v) (hown : w.ownsRow base e size v n xs)
    (xv : Value) (m : Nat) (news : List Value) (hx : a.eval x = xv) (hsrc : Src P size tx xv m news w)
    (h63 : n + m ≤ maxLen) (hbytes : (n + m) * bytes ≤ 140737488355328) (hbase : base ≤ w.heap.size)
    (h : ∀ v' w', w'.ownsRow base e size v' (n + m) (xs ++ news) → w.grownBy w' v.ownBlock → (v'.ownBlock = v.ownBlock ∨ v'.ownBlock = some w.heap.size) → K (a.put o.dst v') w') : o.wp P a w K Q := by
  obtain ⟨v', w', hrun, h2, h3, h4, _⟩ := run_append_src P w base t tx o.type e i z size bytes ht hi hz hsize hby hzs v n xs hown xv m news hsrc h63 hbytes hbase
  unfold Oper.wp execOp
  simp only [ho, resolve, invoke, builtin, Sem.run_bind, Sem.run_pure, Result.andThen_ok, List.map_toArray, List.map_cons, List.map_nil, hs, hx, hrun]
  exact h v' w' h2 h3 h4

theorem wpList_append_src {ops : Array Oper} {rest : List Oper} {o : Oper} {a : Act} {Q : Exit → Act → World → Prop} (hgd : o.guard = none) (s x : Operand) (t tx : TypeId)
    (ho : o.op = .call { callee := .builtin .append, args := #[s, x], argTypes := #[t, tx] })
    (base : Nat) (e : TypeId) (i : TypeInfo) (z : Value) (size bytes : Nat) (ht : P.underlying t = some (.slice e)) (hi : P.info? e = some i) (hz : i.zero = some z)
    (hsize : i.size = size) (hby : i.bytes = bytes) (hzs : z.cells.size = size)
    (v : Value) (n : Nat) (xs : List Value) (hs : a.eval s = v) (hown : w.ownsRow base e size v n xs)
    (xv : Value) (m : Nat) (news : List Value) (hx : a.eval x = xv) (hsrc : Src P size tx xv m news w)
    (h63 : n + m ≤ maxLen) (hbytes : (n + m) * bytes ≤ 140737488355328) (hbase : base ≤ w.heap.size)
    (h : ∀ v' w', w'.ownsRow base e size v' (n + m) (xs ++ news) → w.grownBy w' v.ownBlock → (v'.ownBlock = v.ownBlock ∨ v'.ownBlock = some w.heap.size) → wpList P ops Q rest (a.put o.dst v') w') : wpList P ops Q (o :: rest) a w :=
  wpList_plain hgd fun _ hK => wp_append_src w s x t tx ho base e i z size bytes ht hi hz hsize hby hzs v n xs hs hown xv m news hx hsrc h63 hbytes hbase fun v' w' h2 h3 h4 => hK _ _ (h v' w' h2 h3 h4)

theorem step_append_src {ops : Array Oper} {o : Oper} {a : Act} {K : Act → World → Prop} {Q : Exit → Act → World → Prop} {E : Prop} (hgd : o.guard = none) (s x : Operand) (t tx : TypeId)
    (ho : o.op = .call { callee := .builtin .append, args := #[s, x], argTypes := #[t, tx] })
    (base : Nat) (e : TypeId) (i : TypeInfo) (z : Value) (size bytes : Nat) (ht : P.underlying t = some (.slice e)) (hi : P.info? e = some i) (hz : i.zero = some z)
    (hsize : i.size = size) (hby : i.bytes = bytes) (hzs : z.cells.size = size)
    (v : Value) (n : Nat) (xs : List Value) (hs : a.eval s = v) (hown : w.ownsRow base e size v n xs)
    (xv : Value) (m : Nat) (news : List Value) (hx : a.eval x = xv) (hsrc : Src P size tx xv m news w)
    (h63 : n + m ≤ maxLen) (hbytes : (n + m) * bytes ≤ 140737488355328) (hbase : base ≤ w.heap.size)
    (h : ∀ v' w', w'.ownsRow base e size v' (n + m) (xs ++ news) → w.grownBy w' v.ownBlock → (v'.ownBlock = v.ownBlock ∨ v'.ownBlock = some w.heap.size) → K (a.put o.dst v') w') :
    if Region.wanted o (yielded ops a.tmps) = true then Oper.wp P o a w K Q else E := by
  have hw : Region.wanted o (yielded ops a.tmps) = true := by simp [Region.wanted, hgd]
  rw [if_pos hw]
  exact wp_append_src w s x t tx ho base e i z size bytes ht hi hz hsize hby hzs v n xs hs hown xv m news hx hsrc h63 hbytes hbase h
end

/-- Block bb is a variable (of type T, one cell) that holds a slice of bytes xs of the call's own; its row lies in block r (none: nil). All lies from block B on. -/
structure Buf (w : World) (B : Nat) (T : TypeId) (bb : Nat) (sv : Value) (xs : List UInt8) : Prop where
  ge : B ≤ bb
  ne : T ≠ 5
  blk : Blk w bb T #[sv]
  own : w.ownsRow B 5 1 sv xs.length (bcells xs)

/-- From w to w': of what was there, block bb and the row r may have changed, nothing else; the row is now r': the old one or a new one. -/
structure Wr (w w' : World) (bb : Nat) (r r' : Option Nat) : Prop where
  os : w'.os = w.os
  tape : w'.tape = w.tape
  output : w'.output = w.output
  size : w.heap.size ≤ w'.heap.size
  block : ∀ k, k < w.heap.size → k ≠ bb → some k ≠ r → w'.heap[k]? = w.heap[k]?
  row : r' = r ∨ ∀ g, r' = some g → w.heap.size ≤ g

section
variable {w w1 w2 : World} {B bb : Nat} {T : TypeId} {r r1 r2 : Option Nat} {sv : Value} {xs : List UInt8}
theorem Wr.refl (w : World) (bb : Nat) (r : Option Nat) : Wr w w bb r r := ⟨rfl, rfl, rfl, Nat.le_refl _, fun _ _ _ _ => rfl, .inl rfl⟩
theorem Wr.ne (h : Wr w w1 bb r r1) {k : Nat} (hk : k < w.heap.size) (hr : some k ≠ r) : some k ≠ r1 := by
  rcases h.row with e | e
  · rw [e]; exact hr
  · intro he
    have := e k he.symm
    omega
theorem Wr.trans (h : Wr w w1 bb r r1) (k : Wr w1 w2 bb r1 r2) : Wr w w2 bb r r2 :=
  ⟨k.os.trans h.os, k.tape.trans h.tape, k.output.trans h.output, Nat.le_trans h.size k.size,
    fun i hi hb hr => (k.block i (Nat.lt_of_lt_of_le hi h.size) hb (h.ne hi hr)).trans (h.block i hi hb hr), by
      rcases k.row with e | e
      · rw [e]; exact h.row
      · exact .inr fun g hg => Nat.le_trans h.size (e g hg)⟩
theorem Wr.drew (h : Wr w w1 bb r r1) : Wr w w1.drew bb r r1 := ⟨h.os, h.tape, h.output, h.size, h.block, h.row⟩
theorem Wr.drewN (h : Wr w w1 bb r r1) (n : Nat) : Wr w (w1.drewN n) bb r r1 := ⟨h.os, h.tape, h.output, h.size, h.block, h.row⟩
theorem Wr.alloc (h : Wr w w1 bb r r1) (o : Obj) : Wr w (w1.alloc o) bb r r1 :=
  h.trans ⟨rfl, rfl, rfl, by simp, fun k hk _ _ => Below.heap_alloc _ _ _ hk, .inl rfl⟩
theorem Wr.below (h : Wr w w1 bb r r1) (hb : B ≤ bb) (hr : ∀ g, r = some g → B ≤ g) (hw : B ≤ w.heap.size) : Below B w w1 :=
  ⟨h.os, h.tape, h.output, h.size, fun k hk => h.block k (by omega) (by omega) (fun e => by have := hr k e.symm; omega)⟩
/-- what lies below the base -/
theorem Wr.ofBelow (h : Below B w w1) (hw : w.heap.size ≤ B) (r : Option Nat) : Wr w w1 bb r r :=
  ⟨h.os, h.tape, h.output, h.size, fun k hk _ _ => h.block k (by omega), .inl rfl⟩
theorem Wr.blk (h : Wr w w1 bb r r1) {g : Nat} {t : TypeId} {cs : Array Value} (hg : Blk w g t cs) (hb : g ≠ bb) (hr : some g ≠ r) : Blk w1 g t cs :=
  (h.block g hg.lt hb hr).trans hg

/-- a block of another type than the row that was appended to -/
theorem blk_grown {w w1 : World} {H : Nat} {e : TypeId} {size n : Nat} {v : Value} {xs : List Value} {g : Nat} {t : TypeId} {cs : Array Value} (hown : w.ownsRow H e size v n xs) (hg : w.grownBy w1 v.ownBlock) (hb : Blk w g t cs) (hne : e ≠ t) : Blk w1 g t cs :=
  (hg.block g hb.lt (fun e => own_blk_ne hown hb hne e.symm)).trans hb
theorem Buf.lt (h : Buf w B T bb sv xs) : bb < w.heap.size := h.blk.lt
theorem Buf.row_lt (h : Buf w B T bb sv xs) : ∀ g, sv.ownBlock = some g → B ≤ g ∧ g < w.heap.size := h.own.lt
theorem Buf.row_ne (h : Buf w B T bb sv xs) {g : Nat} {t : TypeId} {cs : Array Value} (hg : Blk w g t cs) (ht : t ≠ 5) : some g ≠ sv.ownBlock := fun e => own_blk_ne h.own hg (fun e' => ht e'.symm) e.symm
theorem Buf.shape (h : Buf w B T bb sv xs) : ∃ A c, sv = .slice A xs.length c := by
  rcases h.own.2 with ⟨e, h0⟩ | ⟨g, cap, cur, e, _⟩
  · exact ⟨_, _, by rw [e, h0]⟩
  · exact ⟨_, _, e⟩
theorem Buf.below (h : Buf w B T bb sv xs) {B' : Nat} (hw : Below B' w w1) (hb : bb < B') (hr : ∀ g, sv.ownBlock = some g → g < B') : Buf w1 B T bb sv xs :=
  ⟨h.ge, h.ne, h.blk.below hw hb, by
    refine ⟨h.own.1, ?_⟩
    rcases h.own.2 with hn | ⟨g, cap, cur, rfl, hbg, hg, rest⟩
    · exact .inl hn
    · exact .inr ⟨g, cap, cur, rfl, hbg, (hw.block g (hr g rfl)).trans hg, rest⟩⟩
theorem Buf.belowAll (h : Buf w B T bb sv xs) (hw : Below w.heap.size w w1) : Buf w1 B T bb sv xs := h.below hw h.lt fun g hg => (h.row_lt g hg).2
theorem Buf.alloc (h : Buf w B T bb sv xs) (o : Obj) : Buf (w.alloc o) B T bb sv xs := h.belowAll ((Below.refl _ _).alloc (Nat.le_refl _) o)
theorem Buf.drew (h : Buf w B T bb sv xs) : Buf w.drew B T bb sv xs := ⟨h.ge, h.ne, h.blk, h.own⟩
theorem Buf.drewN (h : Buf w B T bb sv xs) (n : Nat) : Buf (w.drewN n) B T bb sv xs := ⟨h.ge, h.ne, h.blk, h.own⟩
/-- another writer's work leaves this one alone -/
theorem Buf.wr (h : Buf w B T bb sv xs) {bb' : Nat} (hw : Wr w w1 bb' r r1) (h1 : bb ≠ bb') (h2 : some bb ≠ r) (h3 : ∀ g, sv.ownBlock = some g → g ≠ bb' ∧ some g ≠ r) : Buf w1 B T bb sv xs :=
  ⟨h.ge, h.ne, hw.blk h.blk h1 h2, by
    refine ⟨h.own.1, ?_⟩
    rcases h.own.2 with hn | ⟨g, cap, cur, rfl, hbg, hg, rest⟩
    · exact .inl hn
    · exact .inr ⟨g, cap, cur, rfl, hbg, (hw.block g (Array.getElem?_eq_some_iff.1 hg).1 (h3 g rfl).1 (h3 g rfl).2).trans hg, rest⟩⟩
theorem Buf.blk_grown (h : Buf w B T bb sv xs) (hg : w.grownBy w1 sv.ownBlock) : Blk w1 bb T #[sv] := (hg.block bb h.lt (h.row_ne h.blk h.ne)).trans h.blk
theorem Buf.cell (h : Buf w B T bb sv xs) : w.cell? ⟨bb, 0, none⟩ = some sv := by simpa using h.blk.cell 0
theorem Buf.frozen (h : Buf w B T bb sv xs) : w.frozen? ⟨bb, 0, none⟩ = false := h.blk.frozen 0
theorem own_shape {base : Nat} {n : Nat} {v : Value} {xs : List Value} {e : TypeId} {size : Nat} (h : w.ownsRow base e size v n xs) : ∃ A c, v = .slice A n c := by
  rcases h.2 with ⟨e, h0⟩ | ⟨g, cap, cur, e, _⟩
  · exact ⟨_, _, by rw [e, h0]⟩
  · exact ⟨_, _, e⟩
theorem Blk.cell0 {g : Nat} {t : TypeId} {v : Value} (h : Blk w g t #[v]) : w.cell? ⟨g, 0, none⟩ = some v := by simpa using h.cell 0
/-- behind an append and the store of what it gave -/
theorem Buf.appended (h : Buf w B T bb sv xs) {sv' : Value} {ys : List UInt8} (hown : w1.ownsRow B 5 1 sv' (xs.length + ys.length) (bcells xs ++ bcells ys)) (hg : w.grownBy w1 sv.ownBlock)
    (hat : sv'.ownBlock = sv.ownBlock ∨ sv'.ownBlock = some w.heap.size) :
    Buf (w1.setCell ⟨bb, 0, none⟩ sv') B T bb sv' (xs ++ ys) ∧ Wr w (w1.setCell ⟨bb, 0, none⟩ sv') bb sv.ownBlock sv'.ownBlock := by
  have hblk1 : Blk w1 bb T #[sv] := (hg.block bb h.lt (h.row_ne h.blk h.ne)).trans h.blk
  have hne1 : some bb ≠ sv'.ownBlock := fun e => own_blk_ne hown hblk1 (fun e' => h.ne e'.symm) e.symm
  refine ⟨⟨h.ge, h.ne, ?_, ?_⟩, ⟨hg.os, hg.tape, hg.output, ?_, ?_, ?_⟩⟩
  · have := hblk1.set_ 0 sv'
    simpa using this
  · rw [List.length_append, bcells_append]
    refine ⟨hown.1, ?_⟩
    rcases hown.2 with hn | ⟨g, cap, cur, rfl, hbg, hgg, rest⟩
    · exact .inl hn
    · exact .inr ⟨g, cap, cur, rfl, hbg, (Below.heap_setCell _ _ _ _ (fun e => hne1 (by simp [Value.ownBlock, e]))).trans hgg, rest⟩
  · exact Nat.le_trans hg.size (by simp [World.setCell])
  · intro k hk hb hr
    rw [Below.heap_setCell _ _ _ _ hb]
    exact hg.block k hk hr
  · rcases hat with e | e
    · exact .inl e
    · exact .inr fun g hg' => by rw [e] at hg'; injection hg' with hg'; omega
theorem Rb.wr {v : Value} (h : Rb w B v xs) (hw : Wr w w1 bb r r1) (hB : B ≤ w.heap.size) (h1 : v.ownBlock ≠ some bb) (h2 : ∀ g, v.ownBlock = some g → some g ≠ r) : Rb w1 B v xs := by
  obtain ⟨A, c, e, hc, hr⟩ := h
  refine ⟨A, c, e, hc, fun hn => ?_⟩
  obtain ⟨ad, ea, hb, hx⟩ := hr hn
  subst e ea
  refine ⟨ad, rfl, hb, fun j u hu => ?_⟩
  have hk := hw.block ad.block (by omega) (fun e => h1 (by simp [Value.ownBlock, e])) (h2 _ rfl)
  rw [World.cell?_of_block (w := w) (a := ad.add j) (by rw [block_of_add]; exact hk)]
  exact hx j u hu
theorem Rb.length_le {v : Value} (h : Rb w B v xs) : ∃ A c, v = .slice A xs.length c ∧ xs.length ≤ c := by
  obtain ⟨A, c, e, hc, _⟩ := h
  exact ⟨A, c, e, hc⟩
theorem Buf.new (w : World) {B : Nat} (T : TypeId) (hT : T ≠ 5) (hB : B ≤ w.heap.size) : Buf (w.alloc (.cells #[.slice none 0 0] T)) B T w.heap.size (.slice none 0 0) [] :=
  ⟨hB, hT, Blk.new w T _, World.ownsRow_nil _ _ _ _⟩
/-- the slice owns its bytes, in a row of the call's own -/
def Own (w : World) (B : Nat) (sv : Value) (xs : List UInt8) : Prop := w.ownsRow B 5 1 sv xs.length (bcells xs)
theorem Own.rb {w : World} {B : Nat} {sv : Value} {xs : List UInt8} (h : Own w B sv xs) : Rb w w.heap.size sv xs := Rb.of_own h
theorem Own.row (h : Own w B sv xs) : ∀ g, sv.ownBlock = some g → B ≤ g ∧ g < w.heap.size := World.ownsRow.lt h
theorem Own.keep (h : Own w B sv xs) (hk : ∀ g, sv.ownBlock = some g → w1.heap[g]? = w.heap[g]?) : Own w1 B sv xs := by
  refine ⟨h.1, ?_⟩
  rcases h.2 with hn | ⟨g, cap, cur, rfl, hbg, hg, rest⟩
  · exact .inl hn
  · exact .inr ⟨g, cap, cur, rfl, hbg, (hk g rfl).trans hg, rest⟩
theorem Own.below (h : Own w B sv xs) {B' : Nat} (hw : Below B' w w1) (hr : ∀ g, sv.ownBlock = some g → g < B') : Own w1 B sv xs := h.keep fun g hg => hw.block g (hr g hg)
theorem Own.belowAll (h : Own w B sv xs) (hw : Below w.heap.size w w1) : Own w1 B sv xs := h.below hw fun g hg => (h.row g hg).2
theorem Own.alloc (h : Own w B sv xs) (o : Obj) : Own (w.alloc o) B sv xs := h.belowAll ((Below.refl _ _).alloc (Nat.le_refl _) o)
theorem Own.drew (h : Own w B sv xs) : Own w.drew B sv xs := h
theorem Own.setCell (h : Own w B sv xs) {g : Nat} {t : TypeId} {cs : Array Value} (hg : Blk w g t cs) (ht : t ≠ 5) (i : Nat) (u : Value) : Own (w.setCell ⟨g, i, none⟩ u) B sv xs :=
  h.keep fun k hk => Below.heap_setCell _ _ _ _ (fun e => own_blk_ne h hg (fun e' => ht e'.symm) (by rw [hk]; simpa using e))
theorem Own.more (h : Own w B sv xs) {B' : Nat} (hB : B' ≤ B) : Own w B' sv xs := by
  refine ⟨h.1, ?_⟩
  rcases h.2 with hn | ⟨g, cap, cur, rfl, hbg, rest⟩
  · exact .inl hn
  · exact .inr ⟨g, cap, cur, rfl, by omega, rest⟩
theorem Buf.isOwn (h : Buf w B T bb sv xs) : Own w B sv xs := h.own
/-- what stands in the buffer, as bytes that are read -/
theorem Buf.rb (h : Buf w B T bb sv xs) : Rb w w.heap.size sv xs := Rb.of_own h.own
end

/-- From w to w': of what was there only the blocks of S may have changed. -/
structure But (w w' : World) (S : List Nat) : Prop where
  os : w'.os = w.os
  tape : w'.tape = w.tape
  output : w'.output = w.output
  size : w.heap.size ≤ w'.heap.size
  block : ∀ k, k < w.heap.size → k ∉ S → w'.heap[k]? = w.heap[k]?

section
variable {w w1 w2 : World} {S S' : List Nat}
theorem But.refl (w : World) (S : List Nat) : But w w S := ⟨rfl, rfl, rfl, Nat.le_refl _, fun _ _ _ => rfl⟩
theorem But.trans (h : But w w1 S) (k : But w1 w2 S) : But w w2 S :=
  ⟨k.os.trans h.os, k.tape.trans h.tape, k.output.trans h.output, Nat.le_trans h.size k.size, fun i hi hs => (k.block i (Nat.lt_of_lt_of_le hi h.size) hs).trans (h.block i hi hs)⟩
theorem But.ofBelow (h : Below w.heap.size w w1) (S : List Nat) : But w w1 S := ⟨h.os, h.tape, h.output, h.size, fun k hk _ => h.block k hk⟩
theorem But.drew (h : But w w1 S) : But w w1.drew S := ⟨h.os, h.tape, h.output, h.size, h.block⟩
theorem But.drewN (h : But w w1 S) (n : Nat) : But w (w1.drewN n) S := ⟨h.os, h.tape, h.output, h.size, h.block⟩
theorem But.alloc (h : But w w1 S) (o : Obj) : But w (w1.alloc o) S := h.trans ⟨rfl, rfl, rfl, by simp, fun _ hk _ => Below.heap_alloc _ _ _ hk⟩
theorem But.setCell (h : But w w1 S) {p : Addr} (hp : p.block ∈ S ∨ w.heap.size ≤ p.block) (u : Value) : But w (w1.setCell p u) S :=
  ⟨h.os, h.tape, h.output, Nat.le_trans h.size (by simp [World.setCell]), fun k hk hs => (Below.heap_setCell _ _ _ _ (fun e => by
    rcases hp with hp | hp
    · exact hs (e ▸ hp)
    · omega)).trans (h.block k hk hs)⟩
theorem But.below (h : But w w1 S) {B : Nat} (hS : ∀ k ∈ S, B ≤ k) (hw : B ≤ w.heap.size) : Below B w w1 :=
  ⟨h.os, h.tape, h.output, h.size, fun k hk => h.block k (by omega) (fun e => by have := hS k e; omega)⟩
theorem But.blk (h : But w w1 S) {g : Nat} {t : TypeId} {cs : Array Value} (hg : Blk w g t cs) (hs : g ∉ S) : Blk w1 g t cs := (h.block g hg.lt hs).trans hg
theorem But.more (h : But w w1 S) (hS : ∀ k ∈ S, k ∈ S') : But w w1 S' := ⟨h.os, h.tape, h.output, h.size, fun k hk hs => h.block k hk (fun e => hs (hS k e))⟩
/-- what is new to an elder world may change freely -/
theorem But.weaken (h : But w w1 S) (k : But w1 w2 S') (hS : ∀ x ∈ S', x ∈ S ∨ w.heap.size ≤ x) : But w w2 S :=
  ⟨k.os.trans h.os, k.tape.trans h.tape, k.output.trans h.output, Nat.le_trans h.size k.size, fun i hi hs => (k.block i (Nat.lt_of_lt_of_le hi h.size) (fun e => by
    rcases hS i e with e | e
    · exact hs e
    · omega)).trans (h.block i hi hs)⟩
end

end Go.Proofs.YtabeppaehenefaaGreat
