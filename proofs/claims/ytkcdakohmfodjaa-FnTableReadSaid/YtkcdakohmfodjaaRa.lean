/-
  Readers: what is left to read in a buffer, under limits; the buffer's own Read.
-/
import Derived.Test.YtkcdakohmfodjaaIc
import Derived.Laws.CopyOwn
namespace Go.Proofs.Ytkcdakohmfodjaa
open Go.RowKit
attribute [local go_sem ↓] Go.wp_at_zero Go.wp_at_succ

abbrev eofV : Value := .iface 179 (.string ⟨#[69, 79, 70]⟩)

/-- how much can be read -/
def avail : List Nat → List UInt8 → Nat
  | [], ys => ys.length
  | n :: ns, ys => min n (avail ns ys)

theorem avail_le : ∀ (ns : List Nat) (ys : List UInt8), avail ns ys ≤ ys.length
  | [], ys => Nat.le_refl _
  | n :: ns, ys => by have := avail_le ns ys; rw [avail]; omega
theorem avail_drop : ∀ (ns : List Nat) (ys : List UInt8) (k : Nat), avail (ns.map (· - k)) (ys.drop k) = avail ns ys - k
  | [], ys, k => by simp [avail]
  | n :: ns, ys, k => by rw [List.map_cons, avail, avail, avail_drop ns ys k]; omega

/-- a reader: a buffer (limits: none) or a limit on a reader; ys: what is left in the buffer at its ground; S: the blocks that it changes; R: the row that it reads -/
def Rr (w : World) (B : Nat) : Value → List Nat → List UInt8 → List Nat → Option Nat → Prop
  | r, [], ys, S, R => ∃ bb sv, r = .iface 99 (.pointer (some ⟨bb, 0, none⟩)) ∧ Blk w bb 101 #[sv] ∧ Rb w B sv ys ∧ sv.ownBlock = R ∧ R ≠ some bb ∧ bb < B ∧ S = [bb]
  | r, n :: ns, ys, S, R => ∃ lb r' S', r = .iface 220 (.pointer (some ⟨lb, 0, none⟩)) ∧ Blk w lb 222 #[r', .int .i64 n] ∧ Rr w B r' ns ys S' R ∧ lb ∉ S' ∧ R ≠ some lb ∧ lb < B ∧ S = lb :: S'

theorem Rr.lt : ∀ {ns : List Nat} {w : World} {B : Nat} {r : Value} {ys : List UInt8} {S : List Nat} {R : Option Nat}, Rr w B r ns ys S R → ∀ x ∈ S, x < B
  | [], w, B, r, ys, S, R, h => by
    obtain ⟨bb, sv, _, _, _, _, _, hb, rfl⟩ := h
    intro x hx
    simp at hx
    omega
  | n :: ns, w, B, r, ys, S, R, h => by
    obtain ⟨lb, r', S', _, _, hr, _, _, hb, rfl⟩ := h
    intro x hx
    rcases List.mem_cons.1 hx with rfl | hx
    · exact hb
    · exact Rr.lt hr x hx

/-- what changes neither the reader's blocks nor its row -/
theorem Rr.keep : ∀ {ns : List Nat} {w w1 : World} {B : Nat} {r : Value} {ys : List UInt8} {S : List Nat} {R : Option Nat}, Rr w B r ns ys S R → (∀ x ∈ S, w1.heap[x]? = w.heap[x]?) → (∀ x, R = some x → w1.heap[x]? = w.heap[x]?) → Rr w1 B r ns ys S R
  | [], w, w1, B, r, ys, S, R, h, hS, hR => by
    obtain ⟨bb, sv, rfl, hk, hrb, hown, hne, hb, rfl⟩ := h
    refine ⟨bb, sv, rfl, (hS bb (by simp)).trans hk, ?_, hown, hne, hb, rfl⟩
    obtain ⟨A, c, e, hc, hx⟩ := hrb
    refine ⟨A, c, e, hc, fun hn => ?_⟩
    obtain ⟨ad, ea, hb2, hx2⟩ := hx hn
    refine ⟨ad, ea, hb2, fun j u hu => ?_⟩
    subst e ea
    rw [World.cell?_of_block (w := w) (a := ad.add j) (by rw [block_of_add]; exact hR _ (by rw [← hown]; rfl))]
    exact hx2 j u hu
  | n :: ns, w, w1, B, r, ys, S, R, h, hS, hR => by
    obtain ⟨lb, r', S', rfl, hk, hr, h1, h2, hb, rfl⟩ := h
    exact ⟨lb, r', S', rfl, (hS lb (by simp)).trans hk, Rr.keep hr (fun x hx => hS x (List.mem_cons_of_mem _ hx)) hR, h1, h2, hb, rfl⟩

theorem Rr.row_lt : ∀ {ns : List Nat} {w : World} {B : Nat} {r : Value} {ys : List UInt8} {S : List Nat} {R : Option Nat}, Rr w B r ns ys S R → ys ≠ [] → ∃ g, R = some g ∧ g < B ∧ g ∉ S
  | [], w, B, r, ys, S, R, h, hn => by
    obtain ⟨bb, sv, rfl, hk, ⟨A, c, e, hc, hx⟩, hown, hne, hb, rfl⟩ := h
    obtain ⟨ad, ea, hb2, hx2⟩ := hx (List.length_pos_iff.2 hn)
    subst e ea
    refine ⟨ad.block, by rw [← hown]; rfl, hb2, ?_⟩
    rw [← hown] at hne
    simp [Value.ownBlock] at hne
    simp [hne]
  | n :: ns, w, B, r, ys, S, R, h, hn => by
    obtain ⟨lb, r', S', rfl, hk, hr, h1, h2, hb, rfl⟩ := h
    obtain ⟨g, e, hg, hs⟩ := Rr.row_lt hr hn
    refine ⟨g, e, hg, fun hm => ?_⟩
    rcases List.mem_cons.1 hm with rfl | hm
    · exact h2 e
    · exact hs hm

/-- the cells behind a copy of xs to place o -/
def spl (cs : Array Value) (o : Nat) (xs : List UInt8) : Array Value := (cs.toList.take o ++ (bcells xs ++ cs.toList.drop (o + (bcells xs).length))).toArray

/-- what a Read into a row of the caller's comes to -/
def ReadPost (G : TypeId) (w : World) (B : Nat) (r : Value) (ns : List Nat) (ys : List UInt8) (S : List Nat) (R : Option Nat) (g o m : Nat) (cs : Array Value) (e : Ending) (w' : World) : Prop :=
  (avail ns ys = 0 ∧ e = .returned (.tuple #[.int .i64 0, eofV]) ∧ Blk w' g G cs ∧ Rr w' B r ns ys S R ∧ But w w' S ∧ w'.heap.size = w.heap.size) ∨
  (0 < avail ns ys ∧ ∃ k, k = min m (avail ns ys) ∧ e = .returned (.tuple #[.int .i64 k, .nilIface]) ∧ Blk w' g G (spl cs o (ys.take k)) ∧ Rr w' B r (ns.map (· - k)) (ys.drop k) S R ∧ But w w' (g :: S) ∧ w'.heap.size = w.heap.size)

theorem wpList_slice_run {P : Program} {w : World} {ops : Array Oper} {rest : List Oper} {o : Oper} {a : Act} {Q : Exit → Act → World → Prop} (hgd : o.guard = none) (t : TypeId) (x lo : Operand)
    (ho : o.op = Op.slice t x (some lo) none none) (xv lov v : Value) (w' : World) (hx : a.eval x = xv) (hl : a.eval lo = lov)
    (hrun : (Instr.sliceAt t xv (some lov) none none).run P w = .ok v w') (h : wpList P ops Q rest (a.put o.dst v) w') : wpList P ops Q (o :: rest) a w := by
  refine wpList_plain hgd fun _ hK => ?_
  unfold Oper.wp execOp
  simp [ho, hx, hl, hrun, Result.andThen]
  exact hK _ _ h

/-- a slice from place k on -/
theorem run_from (w : World) (ad : Addr) (n c k : Nat) (hk : k ≤ n) (hn : n ≤ c) :
    (Instr.sliceAt 27 (.slice (some ad) n c) (some (.int .i64 k)) none none).run Try.prog w = .ok (.slice (some (if c = k then ad else ad.add k)) (n - k) (c - k)) w := by
  by_cases h : c = k <;> simp [Instr.sliceAt, Instr.slice, go_sem, Instr.sliceBounds, Instr.sliceBound, run_underlying Try.underlying27, asIntOf, h] <;> intro h2 <;> omega

/-- a call of Read through an interface value -/
def CanRead (w : World) (r pv : Value) (Post : Ending → World → Prop) : Prop :=
  ∃ T a k, r = .iface T (.pointer (some a)) ∧ (∀ w, (method 354 T (.pointer (some a)) "Read").run Try.prog w = .ok (k, .pointer (some a)) w) ∧
    (∀ w, (nilAhead 354 T (.pointer (some a)) "Read").run Try.prog w = .ok (some false) w) ∧
    (∀ w, (callFunc k #[.pointer (some a), pv]).run Try.prog w = .ok (.enter k #[.pointer (some a), pv]) w) ∧ Calls Try.prog k #[.pointer (some a), pv] w Post

theorem meth_read99 (a : Addr) (w : World) : (method 354 99 (.pointer (some a)) "Read").run Try.prog w = .ok (139, .pointer (some a)) w := by kernel_rfl
theorem nil_read99 (a : Addr) (w : World) : (nilAhead 354 99 (.pointer (some a)) "Read").run Try.prog w = .ok (some false) w := by kernel_rfl
theorem meth_read220 (a : Addr) (w : World) : (method 354 220 (.pointer (some a)) "Read").run Try.prog w = .ok (148, .pointer (some a)) w := by kernel_rfl
theorem nil_read220 (a : Addr) (w : World) : (nilAhead 354 220 (.pointer (some a)) "Read").run Try.prog w = .ok (some false) w := by kernel_rfl

theorem enter139 (a b : Value) (w : World) : (callFunc 139 #[a, b]).run Try.prog w = .ok (.enter 139 #[a, b]) w := by kernel_rfl
theorem enter148 (a b : Value) (w : World) : (callFunc 148 #[a, b]).run Try.prog w = .ok (.enter 148 #[a, b]) w := by kernel_rfl

theorem size5 : (Try.prog.info? 5).map (·.size) = some 1 := by kernel_rfl

theorem Rb.drop {w : World} {B k c : Nat} {ad : Addr} {ys : List UInt8} (h : Rb w B (.slice (some ad) ys.length c) ys) (hk : k ≤ ys.length) : Rb w B (.slice (some (if c = k then ad else ad.add k)) (ys.length - k) (c - k)) (ys.drop k) := by
  obtain ⟨A, c', e, hc, hx⟩ := h
  injection e with e1 e2 e3
  subst e1 e3
  refine ⟨_, _, by rw [List.length_drop], by rw [List.length_drop]; omega, fun hn => ?_⟩
  rw [List.length_drop] at hn
  obtain ⟨ad', ea, hb, hx⟩ := hx (by omega)
  injection ea with ea
  subst ea
  rw [if_neg (by omega)]
  refine ⟨_, rfl, by rw [block_of_add]; exact hb, fun j u hu => ?_⟩
  rw [add_of_add]
  refine hx (k + j) u ?_
  rw [← hu]
  unfold bcells
  rw [List.map_drop, List.getElem?_drop]

/-- copy, into a row that is known whole -/
theorem wpList_copy_spl {G : TypeId} {w : World} {ops : Array Oper} {rest : List Oper} {op : Oper} {a : Act} {Q : Exit → Act → World → Prop} (hgd : op.guard = none) (d s : Operand)
    (ho : op.op = .call { callee := .builtin .copy, args := #[d, s], argTypes := #[27, 27] }) (g o dLen dCap : Nat) (ad : Addr) (sLen sCap : Nat) (hd : a.eval d = .slice (some ⟨g, o, none⟩) dLen dCap) (hs : a.eval s = .slice (some ad) sLen sCap)
    (cs : Array Value) (hg : Blk w g G cs) (xs : List UInt8) (k : Nat) (hk : xs.length = k) (hn : k = Nat.min sLen dLen) (hsrc : ∀ j v, (bcells xs)[j]? = some v → w.cell? (ad.add j) = some v) (hfit : o + k ≤ cs.size)
    (h : ∀ w1, Blk w1 g G (spl cs o xs) → But w w1 [g] → w1.heap.size = w.heap.size → wpList Try.prog ops Q rest (a.put op.dst (.int .i64 k)) w1) : wpList Try.prog ops Q (op :: rest) a w := by
  subst hk
  refine wpList_copy_own hgd d s 27 27 ho 5 Try.underlying27 size5 g o dLen dCap ad sLen sCap hd hs cs G hg (bcells xs) (by rw [bcells_length]; exact hn) hsrc (by rw [bcells_length]; exact hfit) (bcells_one _) ?_
  have := h _ (setRow_heap w g _ _ G _ hg) ⟨rfl, rfl, rfl, by simp [World.setRow], fun x _ hx => setRow_other w g x _ (by simpa using hx)⟩ (by simp [World.setRow])
  rw [bcells_length]
  unfold spl at this
  rw [bcells_length] at this
  exact this

/-- the end of a buffer's Read -/
theorem bufRead_end {G : TypeId} {w w1 : World} {B bb g o m k c1 n1 : Nat} {ad ad' : Addr} {R : Option Nat} {sv sv0 : Value} {ys : List UInt8} {cs : Array Value} (_hk : Blk w bb 101 #[sv0]) (hgr : R = some ad.block) (hnb : ad.block ≠ bb) (hbg : bb ≠ g) (hbb : bb < B) (hne : R ≠ some bb) (hlt : ad.block < w.heap.size)
    (k1 : Blk w1 bb 101 #[sv]) (g1 : Blk w1 g G (spl cs o (ys.take k))) (g2 : But w w1 [g]) (g3 : w1.heap.size = w.heap.size) (hrb : Rb w B (.slice (some ad') n1 c1) (ys.drop k)) (hb' : ad'.block = ad.block) (hag : ad.block ≠ g) (hpos : 0 < ys.length) (hkd : k = min ys.length m) :
    ReadPost G w B (.iface 99 (.pointer (some ⟨bb, 0, none⟩))) [] ys [bb] R g o m cs (.returned (.tuple #[.int .i64 k, .nilIface])) (w1.setCell ⟨bb, 0, none⟩ (.slice (some ad') n1 c1)) := by
  have k2 : Blk (w1.setCell ⟨bb, 0, none⟩ (.slice (some ad') n1 c1)) bb 101 #[.slice (some ad') n1 c1] := by
    have := k1.set_ 0 (.slice (some ad') n1 c1); simpa using this
  refine .inr ⟨by rw [avail]; exact hpos, k, by rw [avail, hkd, Nat.min_comm], rfl, g1.far (fun e => hbg e.symm) _, ?_, ?_, ?_⟩
  · refine ⟨bb, _, rfl, k2, ?_, ?_, hne, hbb, rfl⟩
    · obtain ⟨A', c', e, hc', hx'⟩ := hrb
      refine ⟨A', c', e, hc', fun hn => ?_⟩
      obtain ⟨ad2, ea, hb2, hx''⟩ := hx' hn
      refine ⟨ad2, ea, hb2, fun j u hu => ?_⟩
      subst ea
      injection e with e1
      injection e1 with e1
      subst e1
      rw [World.cell?_of_block (w := w) (a := ad'.add j)]
      · exact hx'' j u hu
      · rw [block_of_add, hb', Below.heap_setCell _ _ _ _ hnb]
        exact g2.block _ hlt (by simpa using hag)
    · rw [hgr, ← hb']
      rfl
  · exact (g2.more (by simp)).setCell (.inl (by simp)) _
  · simpa [World.setCell] using g3

set_option maxRecDepth 100000 in
set_option maxHeartbeats 2000000 in
/-- (*Buffer).Read -/
theorem bufRead {G : TypeId} {w : World} {B bb : Nat} {sv : Value} {ys : List UInt8} {R : Option Nat} {g o m c : Nat} {cs : Array Value} (hk : Blk w bb 101 #[sv]) (hrb : Rb w B sv ys) (hown : sv.ownBlock = R) (hne : R ≠ some bb) (hbb : bb < B)
    (hg : Blk w g G cs) (hgB : B ≤ g) (hm : 0 < m) (hfit : o + m ≤ cs.size) (hys : ys.length ≤ 1000000000) :
    Calls Try.prog 139 #[.pointer (some ⟨bb, 0, none⟩), .slice (some ⟨g, o, none⟩) m c] w (ReadPost G w B (.iface 99 (.pointer (some ⟨bb, 0, none⟩))) [] ys [bb] R g o m cs) := by
  have hc := hk.cell0
  have hf := hk.frozen 0
  have hR : Rr w B (.iface 99 (.pointer (some ⟨bb, 0, none⟩))) [] ys [bb] R := ⟨bb, sv, rfl, hk, hrb, hown, hne, hbb, rfl⟩
  obtain ⟨A, c0, hsv, hc0, hx⟩ := hrb
  subst hsv
  have hm1 : ((m : Int) == 0) = false := by simp; omega
  by_cases h0 : ys = []
  · subst h0
    have HR := Lib.hid hR
    clear hR hx hown hne
    go_enter Try.func139, Try.ntmps139
    go_wp2_with fail
    go_ret2
    exact .inl ⟨rfl, rfl, hg, HR.out, But.refl _ _, rfl⟩
  · have hpos : 0 < ys.length := List.length_pos_iff.2 h0
    obtain ⟨ad, ea, hadB, hcell⟩ := hx hpos
    subst ea
    have hl1 : ((ys.length : Int) == 0) = false := by simp; omega
    obtain ⟨k, hkd⟩ : ∃ k, k = min ys.length m := ⟨_, rfl⟩
    have hk1 : k ≤ ys.length := by omega
    have hk2 : k ≤ m := by omega
    have hlen : (bcells (ys.take k)).length = k := by rw [bcells_length, List.length_take]; omega
    have hrbd := Rb.drop (k := k) (⟨_, _, rfl, hc0, hx⟩ : Rb w B (.slice (some ad) ys.length c0) ys) hk1
    have hrun := fun w => run_from w ad ys.length c0 k hk1 hc0
    have hgr : R = some ad.block := by rw [← hown]; rfl
    have hnb : ad.block ≠ bb := fun e => hne (by rw [hgr, e])
    have hbg : bb ≠ g := by omega
    have Hh0 := Lib.hid h0
    have HR := Lib.hid hR
    have HRun := Lib.hid hrun
    have HRbd := Lib.hid hrbd
    have Hlen := Lib.hid hlen
    have Hkd := Lib.hid hkd
    have Hown := Lib.hid hown
    have Hne := Lib.hid hne
    have hgr' := hgr
    have Hlt : ad.block < w.heap.size := by
      have := World.block_lt_of_cell? w _ (hcell 0 _ (List.getElem?_eq_getElem (by rw [bcells_length]; exact hpos)))
      rwa [block_of_add] at this
    have Hgr := Lib.hid hgr
    have Hcell := Lib.hid hcell
    clear h0 hR hrun hrbd hlen hkd hown hne hgr hcell hx
    go_enter Try.func139, Try.ntmps139
    go_wp2_with (refine wpList_copy_spl rfl (.tmp 17) (.tmp 21) rfl g o m c ad ys.length c0 rfl rfl cs hg (ys.take k) k (by have := Hlen.out; rwa [bcells_length] at this) Hkd.out (fun j v hj => Hcell.out j v (by
        rw [← hj]
        have hjk : j < k := by
          have := (List.getElem?_eq_some_iff.1 hj).1
          rwa [Hlen.out] at this
        unfold bcells
        rw [List.map_take, List.getElem?_take_of_lt hjk])) (by omega) ?_)
    intro w1 g1 g2 g3
    have k1 : Blk w1 bb 101 #[.slice (some ad) ys.length c0] := g2.blk hk (by simpa using hbg)
    have q0 := k1.cell0
    have q1 := k1.frozen 0
    have G3 := Lib.hid g3
    clear g3 hc hf
    have Hk1 := Lib.hid k1
    have hg1' := Lib.hid g1
    by_cases hck : c0 = k
    · have hrun1 := HRun.out w1
      have hrb1 := HRbd.out
      rw [if_pos hck] at hrun1 hrb1
      have HRun1 := Lib.hid hrun1
      have HRb1 := Lib.hid hrb1
      have Hck := Lib.hid hck
      clear hrun1 hrb1 hck
      go_wp2_with (refine wpList_slice_run rfl 27 (.tmp 27) (.tmp 28) rfl _ _ _ w1 rfl rfl HRun1.out ?_)
      go_ret2
      exact bufRead_end hk hgr' hnb hbg hbb Hne.out Hlt Hk1.out hg1'.out g2 G3.out HRb1.out rfl (by omega) hpos Hkd.out
    · have hrun1 := HRun.out w1
      have hrb1 := HRbd.out
      rw [if_neg hck] at hrun1 hrb1
      have HRun1 := Lib.hid hrun1
      have HRb1 := Lib.hid hrb1
      have Hck := Lib.hid hck
      clear hrun1 hrb1 hck
      go_wp2_with (refine wpList_slice_run rfl 27 (.tmp 27) (.tmp 28) rfl _ _ _ w1 rfl rfl HRun1.out ?_)
      go_ret2
      exact bufRead_end hk hgr' hnb hbg hbb Hne.out Hlt Hk1.out hg1'.out g2 G3.out HRb1.out (block_of_add _ _) (by omega) hpos Hkd.out

end Go.Proofs.Ytkcdakohmfodjaa
