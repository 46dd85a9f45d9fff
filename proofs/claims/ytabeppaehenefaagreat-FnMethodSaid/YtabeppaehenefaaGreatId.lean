/-
  The package's writer: the names of a map in growing order.
  The package's writer: a table, given its values.
  The package's writer: arrays and tables as fields; all values and tables.
  The package's writer: all values and tables.
-/
import Derived.Test.YtabeppaehenefaaGreatIc
import Derived.Test.YtabeppaehenefaaGreatShelf
import Derived.Maps.RangeWalk
import Derived.Sort.KeysCollected
import Derived.Sort.OwnSorted
import Derived.Laws.Strings
import Derived.StringKeys
namespace Go.Proofs.YtabeppaehenefaaGreat
open Go.RowKit Go.Sort Go.Maps
set_option linter.unusedVariables false

/-! ### the names of a good table grow -/
theorem bytesLess_lt : ∀ (x y : List UInt8), Op.bytesLess x y = decide (x < y)
  | [], [] => by simp [Op.bytesLess]
  | _ :: _, [] => by simp [Op.bytesLess]
  | [], _ :: _ => by simp [Op.bytesLess]
  | a :: x, b :: y => by
    rw [Op.bytesLess, bytesLess_lt x y]
    simp only [List.cons_lt_cons_iff]
    by_cases h1 : a < b <;> by_cases h2 : a = b <;> by_cases h3 : x < y <;> simp [h1, h2, h3]
theorem nameLess_lt (a b : ByteArray) : nameLess a b = true ↔ a.data.toList < b.data.toList := by
  unfold nameLess
  rw [bytesLess_lt, ByteArray.toList_eq, ByteArray.toList_eq]
  simp

theorem names_grow : ∀ (fs : Fs) (prev : Option ByteArray), fs.good prev → fs.names.Pairwise (· < ·) ∧ (∀ p, prev = some p → ∀ x ∈ fs.names, p.data.toList < x)
  | .nil, prev, _ => ⟨List.Pairwise.nil, fun _ _ x hx => by simp [Fs.names] at hx⟩
  | .cons name v r, prev, h => by
    rw [Fs.good] at h
    obtain ⟨_, h1, _, h2⟩ := h
    obtain ⟨i1, i2⟩ := names_grow r (some name) h2
    rw [Fs.names]
    refine ⟨List.pairwise_cons.2 ⟨fun x hx => i2 name rfl x hx, i1⟩, fun p hp x hx => ?_⟩
    subst hp
    have hpn : p.data.toList < name.data.toList := (nameLess_lt _ _).1 h1
    rcases List.mem_cons.1 hx with rfl | hx
    · exact hpn
    · exact List.lt_trans hpn (i2 name rfl x hx)
theorem names_len : ∀ fs : Fs, fs.names.length = fs.len
  | .nil => rfl
  | .cons _ _ r => by rw [Fs.names, List.length_cons, names_len r, Fs.len]
theorem grow_nodup {l : List (List UInt8)} (h : l.Pairwise (· < ·)) : l.Nodup := h.imp fun hlt e => by subst e; exact List.lt_irrefl _ hlt
theorem sort_self {l : List (List UInt8)} (h : l.Pairwise (· < ·)) : l.mergeSort leB = l := by
  refine List.mergeSort_of_pairwise (h.imp fun hlt => ?_)
  simp only [leB, decide_eq_true_eq]
  exact List.le_of_lt hlt

theorem law9 : Keyed Tryz.prog 9 := string_keyed Tryz.underlying9
theorem under53 : Tryz.prog.underlying 56 = some (.map 9 20) := by kernel_rfl
theorem under130 : Tryz.prog.underlying 336 = some (.slice 9) := by kernel_rfl
theorem info9 : (Tryz.prog.info? 9).map (fun i => (i.zero, i.size, i.bytes)) = some (some (.string ⟨#[]⟩), 1, 16) := by kernel_rfl

/-- a slice that owns these strings -/
def OwnStrs (w : World) (B : Nat) (v : Value) (ns : List (List UInt8)) : Prop := w.ownsRow B 9 1 v ns.length (ns.map encStr)

def SortedPost (w : World) (ns : List (List UInt8)) (e : Ending) (w' : World) : Prop := ∃ v, e = .returned v ∧ OwnStrs w' w.heap.size v ns ∧ Below w.heap.size w w'

set_option maxRecDepth 100000 in
set_option maxHeartbeats 2000000 in
/-- sortedNames -/
theorem sortedNames_any {w : World} {b n : Nat} {D : DataW Value} {ns : List (List UInt8)} (hm : MapOf w b n ns D) (hn : n ≤ 1000000) (hg : ns.Pairwise (· < ·)) :
    Calls Tryz.prog 76 #[.map (some b)] w (SortedPost w ns) := by
  obtain ⟨i0, hi, hz0, hz1, hz2⟩ := info_parts info9
  obtain ⟨hown, hns⟩ := hm
  have hbl := hown.lt
  have hsz := hown.size_le
  have HNS := Lib.hid hns
  have HG := Lib.hid hg
  clear hns hg
  go_enter Tryz.func76, Tryz.ntmps76
  go_wp2_with (at_range; refine wpList_range_own _ rfl _ 56 rfl 9 20 law9 under53 anyElem b n D rfl hown ?_; intro w0 hrg0 hg0 hs0)
  go_frame
  go_loopw [3] (fun v wr => ∃ (left : Lit → Bool) (cnt : Nat) (ss : List (List UInt8)), wr.ranges Tryz.prog 9 anyElem b w.heap.size n D left cnt ∧ ss.length + cnt ≤ Maps.size D ∧
      OwnStrs wr w.heap.size v ss ∧ Collected D left ss ∧ Below w.heap.size w wr)
    (fun _ wr => wr.rangeLeft b w.heap.size)
  case atStart =>
    exact ⟨_, _, [], hrg0, by simp, World.ownsRow_nil _ _ _ _, Collected.start D, (Below.refl _ _).grown hg0 (Nat.le_refl _) (fun j hj => by cases hj)⟩
  case round =>
    obtain ⟨left, cnt, ss, hrg, hcs, hrow, hC, hnx⟩ := hrel
    clear hg0 hs0 hrg0
    go_wp2_with (at_next; refine wpList_next_ranges _ rfl _ rfl 9 law9 anyElem encStr (fun v : Value => v) (fun key kl hk => by obtain ⟨x, hx, _⟩ := Maps.keyOf_str Tryz.underlying9 hk; exact ⟨x, hx⟩) (fun v y hv => ⟨v, rfl⟩) b w.heap.size n D left cnt rfl hrg ?_ ?_)
    · intro hc0 hl0
      have hperm : ss.Perm ns := by
        refine (List.perm_ext_iff_of_nodup hC.1 (grow_nodup HG.out)).2 fun x => ?_
        rw [hC.2 x, HNS.out x, hl0]
        simp
      have hlen := hperm.length_eq
      have hsort : ss.mergeSort leB = ns := by rw [mergeSort_of_perm hperm, sort_self HG.out]
      have HL := Lib.hid hlen
      have HSo := Lib.hid hsort
      clear hlen hsort hc0 hl0
      rcases hrow.2 with ⟨hnil, h0⟩ | ⟨g, cap, cur, hv, hbase, hb, h1, h2, h3, h4⟩
      · have hss : ss = [] := List.eq_nil_of_length_eq_zero h0
        subst hnil hss
        go_wp2_with fail
        refine (Tryz.slices_Sort_string_none none 0 _).mono ?_
        rintro e w' ⟨rfl, rfl⟩
        go_wp2
        go_ret
        have hns0 : ns = [] := List.eq_nil_of_length_eq_zero (by have := HL.out; simpa using this.symm)
        subst hns0
        exact ⟨_, rfl, World.ownsRow_nil _ _ _ _, hnx⟩
      · subst hv
        have hH : Holds encStr wr g 0 ss.toArray := holds_of_block hb (by simpa using h4)
        have hgl : g < wr.heap.size := (Array.getElem?_eq_some_iff.1 hb).1
        have hc := Tryz.slices_Sort_string g 0 cap ss wr hH hgl (by omega)
        have HC := Lib.hid hc
        have HB := Lib.hid hb
        have H3 := Lib.hid h3
        clear hc hb h3 h4 hH
        go_wp2_with fail
        refine HC.out.mono ?_
        rintro e w' ⟨rfl, nn, os, hw'⟩
        have HW := Lib.hid hw'
        clear hw'
        go_wp2
        go_ret
        refine ⟨_, rfl, ?_, ?_⟩
        · have := ownsRow_sorted (w := wr) (n := nn) (os := os) (ts := ss.mergeSort leB) (by simp) hbase HB.out h1 h2 H3.out
          rw [HSo.out] at this
          unfold OwnStrs
          rw [HW.out, HSo.out, ← HL.out]
          exact this
        · rw [HW.out]
          exact hnx.grown (grownBy_sorted _) hnx.size (fun j hj => by cases hj; exact hbase)
    · intro x c kl yd yp w2 cnt2 hkey hlk hv hat hrg2 hlt hg2 hs2 hen
      obtain ⟨x', ex, rfl, _⟩ := Maps.keyOf_str Tryz.underlying9 hkey
      obtain rfl : x = x' := encStr_inj ex
      have hrow2 := World.ownsRow.kept hrow hg2 (Or.inr (row_ne_iter hrow hrg).symm)
      clear hs2
      go_wp2_with (at_builtin; refine wpList_append_own _ rfl _ _ 336 rfl w.heap.size 9 i0 (.string ⟨#[]⟩) 1 16 under130 hi hz0 hz1 hz2 rfl (by decide) _ _ _ rfl (hrow2.alloc _) ⟨w2.heap.size, 0, none⟩ 1 1 [encStr x] rfl rfl (cell_one_new _ _ _) (by simp [Value.oneCell', encStr]) (by unfold maxLen at *; omega) (by omega) (by have := hnx.size; have := hg2.size; simp; omega) ?_; intro v' w3 hown' hg3 hnil3; go_frame)
      have hrg3 := (hrg2.alloc _).kept hg3 (row_ne_low hrow2 hbl) (row_ne_iter hrow2 hrg2)
      go_roundw
      case rel =>
        refine ⟨_, cnt2, ss ++ [x], hrg3, by simp; omega, by simpa [OwnStrs] using hown', hC.step hlk hat, ?_⟩
        exact ((hnx.grown hg2 hnx.size (fun j hj => by cases hj; exact Nat.le_refl _)).alloc (by have := hnx.size; have := hg2.size; omega) _).grown hg3 (by have := hnx.size; have := hg2.size; simp; omega) (fun j hj => (hrow2.lt j hj).1)
      case measure => rw [hrg3.left_eq, hrg.left_eq]; exact hlt

end Go.Proofs.YtabeppaehenefaaGreat

namespace Go.Proofs.YtabeppaehenefaaGreat
open Go.RowKit Go.Sort Go.Maps
set_option linter.unusedVariables false

def WVal (n : Nat) : Prop := ∀ (v : V) (x : Value) (p : Nat → Prop) (B bb : Nat) (sv : Value) (xs : List UInt8) (w : World),
  v.ht ≤ n → v.good → v.ok → AnyV w p v x → Buf w B 281 bb sv xs → B ≤ w.heap.size → (∀ g, p g → g < w.heap.size ∧ g ≠ bb ∧ some g ≠ sv.ownBlock) → v.enc.length ≤ 30000 → xs.length + v.enc.length ≤ 200000 →
  Calls Tryz.prog 78 #[.iface 279 (.pointer (some ⟨bb, 0, none⟩)), x] w (Gave w B bb sv xs v.enc)

def WTab (n : Nat) : Prop := ∀ (fs : Fs) (prev : Option ByteArray) (b : Nat) (p : Nat → Prop) (B bb : Nat) (sv : Value) (xs : List UInt8) (w : World),
  fs.ht ≤ n → fs.good prev → fs.ok → fs.len ≤ 1000000 → TabV w p fs b → Buf w B 281 bb sv xs → B ≤ w.heap.size → (∀ g, p g → g < w.heap.size ∧ g ≠ bb ∧ some g ≠ sv.ownBlock) → fs.enc.length ≤ 30000 → xs.length + 4 + fs.enc.length ≤ 200000 →
  Calls Tryz.prog 74 #[.iface 279 (.pointer (some ⟨bb, 0, none⟩)), .map (some b)] w (Gave w B bb sv xs (tab fs))

theorem conv_own27 {w : World} {B : Nat} {v : Value} {xs : List UInt8} (h : Own w B v xs) : (convert 32 9 v).run Tryz.prog w = .ok (.string ⟨xs.toArray⟩) w := by
  rcases h.2 with ⟨rfl, h0⟩ | ⟨g, cap, cur, rfl, _⟩
  · have : xs = [] := List.eq_nil_of_length_eq_zero h0
    subst this
    rw [run_convert_bytes_string w 32 9 5 none 0 0 Tryz.underlying32 under5 Tryz.underlying9]
    rfl
  · refine run_convert_bytes_back w 32 9 5 ⟨g, 0, none⟩ cap xs Tryz.underlying32 under5 Tryz.underlying9 fun j hj => ?_
    have := World.ownsRow.cells h (g := g) rfl j (.int .u8 (xs[j].toNat : Int)) (by simp [bcells, List.getElem?_eq_getElem hj])
    exact this

/-- (*Buffer).String -/
theorem string_any {B bb : Nat} {sv : Value} {xs : List UInt8} {w : World} (hb : Buf w B 281 bb sv xs) :
    Calls Tryz.prog 79 #[.pointer (some ⟨bb, 0, none⟩)] w fun e w' => e = .returned (.string ⟨xs.toArray⟩) ∧ w = w' := by
  have hc := hb.cell
  have hf := hb.frozen
  have hv := conv_own27 hb.isOwn
  obtain ⟨A, c, rfl⟩ := hb.shape
  go_enter Tryz.func79, Tryz.ntmps79
  go_wp2
  go_ret
  exact ⟨rfl, rfl⟩

/-- the names as they lie in the slice that is gone through -/
def NamesAt (w : World) (A : Option Addr) (ns : List (List UInt8)) : Prop := ns ≠ [] → ∃ g cur, A = some ⟨g, 0, none⟩ ∧ Blk w g 9 cur ∧ cur.toList.take ns.length = ns.map encStr

theorem OwnStrs.names {w : World} {B : Nat} {v : Value} {ns : List (List UInt8)} (h : OwnStrs w B v ns) : ∃ A c, v = .slice A ns.length c ∧ NamesAt w A ns := by
  rcases h.2 with ⟨rfl, h0⟩ | ⟨g, cap, cur, rfl, hbase, hb, h1, h2, h3, h4⟩
  · exact ⟨none, 0, by rw [h0], fun hn => absurd (List.eq_nil_of_length_eq_zero h0) hn⟩
  · exact ⟨_, cap, rfl, fun _ => ⟨g, cur, rfl, hb, by simpa using h4⟩⟩
theorem NamesAt.wr {w w1 : World} {A : Option Addr} {ns : List (List UInt8)} {B bb : Nat} {sv : Value} {xs : List UInt8} {r' : Option Nat} (h : NamesAt w A ns) (hb : Buf w B 281 bb sv xs) (hw : Wr w w1 bb sv.ownBlock r') : NamesAt w1 A ns := by
  intro hn
  obtain ⟨g, cur, e, hk, hc⟩ := h hn
  exact ⟨g, cur, e, hw.blk hk (Blk.ne_ hk hb.blk (by decide)) (hb.row_ne hk (by decide)), hc⟩
theorem NamesAt.at_ {w : World} {A : Option Addr} {ns : List (List UInt8)} {k : Nat} {name : ByteArray} (h : NamesAt w A ns) (hk : ns[k]? = some name.data.toList) : ∃ g, A = some ⟨g, 0, none⟩ ∧ w.cell? ⟨g, k, none⟩ = some (.string name) := by
  have hlt : k < ns.length := (List.getElem?_eq_some_iff.1 hk).1
  obtain ⟨g, cur, rfl, hb, hc⟩ := h (by rintro rfl; simp at hlt)
  refine ⟨g, rfl, ?_⟩
  rw [hb.cell k]
  have : (cur.toList.take ns.length)[k]? = (ns.map encStr)[k]? := by rw [hc]
  rw [List.getElem?_take_of_lt hlt, Array.getElem?_toList] at this
  rw [this, List.getElem?_map, hk]
  simp [encStr]

theorem zero20 (w : World) : (zeroValue 20).run Tryz.prog w = .ok .nilIface w := by kernel_rfl

theorem MapOf.look {w : World} {b n : Nat} {ns : List (List UInt8)} {D : DataW Value} (h : MapOf w b n ns D) {name : ByteArray} {x : Value} (hs : name.size ≤ maxLen) (hx : ∀ z, D.atKey (.string name.data.toList) z = .held x) :
    (Instr.lookup 56 (.map (some b)) (.string name) false).run Tryz.prog w = .ok x w := by
  obtain ⟨v, ps, hrun, hv⟩ := h.1.lookup law9 under53 (zero20 w) (zd := .held .nilIface) (zp := []) rfl (Go.WideMaps.keyOf_string_mk Tryz.underlying9 hs)
  rw [hx] at hv
  simp only [anyElem, Option.some.injEq, Prod.mk.injEq, DataW.held.injEq] at hv
  rw [← hv.1]
  exact hrun

set_option maxRecDepth 100000 in
set_option maxHeartbeats 8000000 in
theorem write_table (n : Nat) (hV : WVal n) : WTab n := by
  intro fs prev b p B bb sv xs w hht hgood hok hlen hT hb hB hp henc hxs
  obtain ⟨D, hpb, hM, hE⟩ := hT
  have hns := (names_grow fs prev hgood).1
  have HV := Lib.hid hV
  have HG := Lib.hid hgood
  have Hok := Lib.hid hok
  have HE := Lib.hid hE
  have HM := Lib.hid hM
  have HP := Lib.hid hp
  have HPB := Lib.hid hpb
  have hbi := Buf.new w 281 (by decide) (Nat.le_refl w.heap.size)
  have hbel : Below w.heap.size w (w.alloc (.cells #[.slice none 0 0] 281)) := (Below.refl _ _).alloc (Nat.le_refl _) _
  have hsn := sortedNames_any (w := w.alloc (.cells #[.slice none 0 0] 281)) (hM.keep (hbel.block b (hp b hpb).1)) hlen hns
  have HSN := Lib.hid hsn
  clear hV hgood hok hE hM hp hpb hsn hns
  go_enter Tryz.func74, Tryz.ntmps74
  go_wp2_with fail
  refine HSN.out.mono ?_
  rintro e w1 ⟨v, rfl, hstr, hbel1⟩
  have hbel01 : Below w.heap.size w w1 := hbel.trans (hbel1.mono (by simp))
  have hbi1 := hbi.belowAll hbel1
  obtain ⟨A, c, rfl, hnames⟩ := hstr.names
  rw [names_len]
  clear hbi hbel hbel1 hstr
  go_wp2_with fail
  go_loopw [13] (fun i wr => ∃ (k : Nat) (rest : Fs) (prev' : Option ByteArray) (done : List UInt8) (svi : Value), i = .int .i64 k ∧ rest.len + k = fs.len ∧ rest.ok ∧ rest.good prev' ∧ rest.ht ≤ n ∧ done ++ rest.enc = fs.enc ∧ fs.names.drop k = rest.names ∧ EntV w p rest D ∧
    Buf wr w.heap.size 281 w.heap.size svi done ∧ NamesAt wr A fs.names ∧ Below w.heap.size w wr) (fun i _ => fs.len - (intOf i).toNat)
  case atStart => exact ⟨0, fs, prev, [], _, rfl, rfl, Hok.out, HG.out, hht, rfl, rfl, HE.out, hbi1, hnames, hbel01⟩
  case round =>
    obtain ⟨k, rest, prev', done, svi, rfl, hrest, hrok, hrg, hrh, hdone, hdrop, hrE, hbi', hnm, hbel'⟩ := hrel
    have hdl : done.length + rest.enc.length = fs.enc.length := by rw [← hdone, List.length_append]
    have Hdone := Lib.hid hdone
    clear hdone hbi1 hnames hbel01
    cases rest with
    | nil =>
      rw [Fs.len] at hrest
      have hde : done = fs.enc := by simpa [Fs.enc] using Hdone.out
      subst hde
      have hkl : k = fs.len := by omega
      subst hkl
      have hbo := hb.belowAll hbel'
      have hsz := hbel'.size
      clear hrest hdrop
      go_wp2_with fail
      refine (string_any hbi').mono ?_
      rintro e w2 ⟨rfl, rfl⟩
      go_wp2_with fail
      refine (wlong ⟨fs.enc.toArray⟩ hbo (by omega) (by omega) (by show fs.enc.toArray.size ≤ _; simp; omega)).mono ?_
      rintro e w3 ⟨rfl, sv', hb2, hw2⟩
      go_wp2
      go_ret
      refine ⟨rfl, sv', ?_, (Wr.ofBelow hbel' (Nat.le_refl _) _).trans hw2⟩
      have : (⟨fs.enc.toArray⟩ : ByteArray).size = fs.enc.length := by show fs.enc.toArray.size = _; simp
      rw [this] at hb2
      exact hb2
    | cons name u q =>
      rw [Fs.len] at hrest
      have hk0 : (0 : Int) ≤ (k : Int) := by omega
      have hk1 : (k : Int) < (fs.len : Int) := by omega
      have hkn : fs.names[k]? = some name.data.toList := by
        have : (fs.names.drop k)[0]? = some name.data.toList := by rw [hdrop]; rfl
        rwa [List.getElem?_drop] at this
      have hdrop2 : fs.names.drop (k + 1) = q.names := by rw [← List.drop_drop, hdrop]; rfl
      obtain ⟨gn, rfl, e0⟩ := hnm.at_ hkn
      rw [EntV] at hrE
      obtain ⟨⟨x, hx, hxv⟩, hrE2⟩ := hrE
      rw [Fs.ok] at hrok
      obtain ⟨o1, o2, o3⟩ := hrok
      rw [Fs.good] at hrg
      obtain ⟨g1, g2, g3, g4⟩ := hrg
      have hlook := MapOf.look (HM.out.keep (hbel'.block b (HP.out b HPB.out).1)) (name := name) (x := x) (by unfold maxLen; omega) hx
      have hlen2 : (Fs.cons name u q).enc.length = 1 + name.size + u.enc.length + q.enc.length := by
        rw [Fs.enc, List.length_append, List.length_append, List.length_cons, size_toList]; omega
      have hht2 : u.ht ≤ n ∧ q.ht ≤ n := by
        rw [Fs.ht] at hrh; omega
      have HX := Lib.hid hx
      have HD2 := Lib.hid hdrop2
      clear hx hdrop hdrop2 hkn
      have hszr := hbel'.size
      go_wp2_with fail
      refine (wshort name hbi' (by omega) (by omega) (by omega)).mono ?_
      rintro e w2 ⟨rfl, sv2, hb2, hw2⟩
      have hnm2 := hnm.wr hbi' hw2
      have hbel2 : Below w.heap.size w w2 := hbel'.trans (hw2.below (Nat.le_refl _) (fun g hg => (hbi'.row_lt g hg).1) hszr)
      have hk2 : ∀ g, p g → w2.heap[g]? = w.heap[g]? := fun g hg => hbel2.block g (HP.out g hg).1
      have hsz2 := hbel2.size
      have hl2 : (done ++ (UInt8.ofNat name.size :: name.data.toList)).length = done.length + 1 + name.size := by rw [List.length_append, List.length_cons, size_toList]; omega
      have hcall := HV.out u x p w.heap.size w.heap.size sv2 _ w2 hht2.1 g3 o2 (hxv.keep hk2 (fun g hg => hg)) hb2 (by omega)
        (fun g hg => ⟨by have := (HP.out g hg).1; omega, by have := (HP.out g hg).1; omega, fun e => by have := (HP.out g hg).1; have := (hb2.row_lt g e.symm).1; omega⟩) (by omega) (by rw [hl2]; omega)
      have HCall := Lib.hid hcall
      clear hcall hk2 hlook e0 hl2
      go_wp2_with fail
      refine HCall.out.mono ?_
      rintro e w3 ⟨rfl, sv3, hb3, hw3⟩
      have hnm3 := hnm2.wr hb2 hw3
      have hbel3 : Below w.heap.size w w3 := hbel2.trans (hw3.below (Nat.le_refl _) (fun g hg => (hb2.row_lt g hg).1) hsz2)
      go_wp2
      refine ⟨⟨k + 1, q, some name, _, sv3, by go_num, by omega, o3, g4, hht2.2, ?_, HD2.out, hrE2, hb3, hnm3, hbel3⟩, by simp [intOf]; omega⟩
      rw [← Hdone.out, Fs.enc]
      simp

end Go.Proofs.YtabeppaehenefaaGreat

namespace Go.Proofs.YtabeppaehenefaaGreat
open Go.RowKit Go.Sort Go.Maps
set_option linter.unusedVariables false
attribute [local go_sem ↓] Go.wp_at_zero Go.wp_at_succ

theorem but_put4 {w w1 : World} {S : List Nat} {g o n : Nat} (h : But w w1 S) (hg : g ∈ S) : But w (put4c w1 g o n) S := (((h.setCell (.inl hg) _).setCell (.inl hg) _).setCell (.inl hg) _).setCell (.inl hg) _
theorem Buf.but {w w1 : World} {B bb : Nat} {T : TypeId} {sv : Value} {xs : List UInt8} {S : List Nat} (h : Buf w B T bb sv xs) (hw : But w w1 S) (h1 : bb ∉ S) (h2 : ∀ g, sv.ownBlock = some g → g ∉ S) : Buf w1 B T bb sv xs :=
  ⟨h.ge, h.ne, hw.blk h.blk h1, by
    refine ⟨h.own.1, ?_⟩
    rcases h.own.2 with hn | ⟨g, cap, cur, rfl, hbg, hg, rest⟩
    · exact .inl hn
    · exact .inr ⟨g, cap, cur, rfl, hbg, (hw.block g (Array.getElem?_eq_some_iff.1 hg).1 (h2 g rfl)).trans hg, rest⟩⟩

theorem arrB32 {w : World} {g : Nat} {t : TypeId} (pre l : List Value) (a b c d : Int) (o m cap : Nat) (n : Nat) (hn : n < 4294967296) (hm : 4 ≤ m) (ho : pre.length = o)
    (hb : Blk w g t (pre ++ (Value.int .u8 a :: Value.int .u8 b :: Value.int .u8 c :: Value.int .u8 d :: l)).toArray) :
    Calls Tryz.prog 66 #[.slice (some ⟨g, o, none⟩) m cap, .int .u32 n] w fun e w' => ArrG w g t (pre ++ bcells (be n 4) ++ l).toArray e w' ∧ But w w' [g] := by
  subst ho
  refine (put32_any (c := cap) n hb hn hm a b c d (by simp) (by simp) (by simp) (by simp)).mono ?_
  rintro e w1 ⟨rfl, hw⟩
  have hk := hb.put4 pre.length n
  rw [put4a_zero] at hk
  rw [← hw] at hk
  refine ⟨⟨rfl, hk, fun B hB => ?_, ?_⟩, ?_⟩
  · rw [hw]; exact below_put4 (Below.refl _ _) hB
  · rw [hw]; exact size_put4 _ _ _ _
  · rw [hw]; exact but_put4 (But.refl _ _) (by simp)

set_option maxRecDepth 100000 in
set_option maxHeartbeats 4000000 in
theorem wf_70 (n : Nat) (hT : WTab n) (m : Int) (f : Nat) (s : Int) (t : ByteArray) (ks : Vs) (fs : Fs) {b : Nat} {p : Nat → Prop} {B bb : Nat} {sv : Value} {xs : List UInt8} {w : World} (hht : fs.ht ≤ n) (hgood : fs.good none) (hok : fs.ok) (hlen : fs.len ≤ 1000000) (hTab : TabV w p fs b)
    (hb : Buf w B 281 bb sv xs) (hB : B ≤ w.heap.size) (hp : ∀ g, p g → g < w.heap.size ∧ g ≠ bb ∧ some g ≠ sv.ownBlock) (henc : fs.enc.length ≤ 30000) (hxs : xs.length + 5 + fs.enc.length ≤ 200000) :
    Calls Tryz.prog 78 #[.iface 279 (.pointer (some ⟨bb, 0, none⟩)), .iface 56 (.map (some b))] w (Gave w B bb sv xs (V.mk 70 m f s t ks fs).enc) := by
  have HT := Lib.hid hT
  have HG := Lib.hid hgood
  have Hok := Lib.hid hok
  have HTab := Lib.hid hTab
  have HP := Lib.hid hp
  clear hT hgood hok hTab hp
  go_enter Tryz.func78, Tryz.ntmps78
  go_wp2_with fail
  have hb2 := (hb.alloc (.cells (arr9 0) 339)).alloc (.cells #[.int .u8 70] 5)
  have hrb : Rb ((w.alloc (.cells (arr9 0) 339)).alloc (.cells #[.int .u8 70] 5)) (w.heap.size + 2) (.slice (some ⟨w.heap.size + 1, 0, none⟩) 1 1) [70] := by
    have hk := Blk.new (w.alloc (.cells (arr9 0) 339)) 5 #[.int .u8 70]
    exact Rb.pre (n := 1) (g := w.heap.size + 1) (by simpa using hk) (by omega) rfl (by omega) rfl
  have hW0 : Wr w ((w.alloc (.cells (arr9 0) 339)).alloc (.cells #[.int .u8 70] 5)) bb sv.ownBlock sv.ownBlock := ((Wr.refl _ _ _).alloc _).alloc _
  have hs0 : ((w.alloc (.cells (arr9 0) 339)).alloc (.cells #[.int .u8 70] 5)).heap.size = w.heap.size + 2 := by simp
  generalize (w.alloc (.cells (arr9 0) 339)).alloc (.cells #[.int .u8 70] 5) = w0 at hb2 hrb hW0 hs0 ⊢
  refine (write_any hb2 (hrb.more (by omega)) (by omega) (by simp; omega)).mono ?_
  rintro e w1 ⟨rfl, sv1, hb1, hw1⟩
  have hW1 := hW0.trans hw1
  have hsz1 := hW1.size
  have hcall := HT.out fs none b p B bb sv1 _ w1 hht HG.out Hok.out hlen (HTab.out.keep (fun g hg => hW1.block g (HP.out g hg).1 (HP.out g hg).2.1 (HP.out g hg).2.2) (fun g hg => hg)) hb1 (by omega)
    (fun g hg => ⟨by have := (HP.out g hg).1; omega, (HP.out g hg).2.1, hW1.ne (HP.out g hg).1 (HP.out g hg).2.2⟩) henc (by simp; omega)
  have HCall := Lib.hid hcall
  clear hcall
  go_wp2_with fail
  refine HCall.out.mono ?_
  rintro e w2 ⟨rfl, sv2, hb3, hw2⟩
  go_wp2
  go_ret
  refine ⟨rfl, sv2, ?_, hW1.trans hw2⟩
  simpa [V.enc, tab] using hb3

set_option maxRecDepth 100000 in
set_option maxHeartbeats 8000000 in
theorem wf_65 (n : Nat) (hV : WVal n) (m : Int) (f : Nat) (s : Int) (t : ByteArray) (ks : Vs) (fs : Fs) {A : Option Addr} {c : Nat} {ys : List Value} {p : Nat → Prop} {B bb : Nat} {sv : Value} {xs : List UInt8} {w : World} (hht : ks.ht ≤ n) (hgood : ks.good) (hok : ks.ok) (hlen : ks.len ≤ 140737488355328) (hR : Rd w p A ys) (hAs : AnyVs w p ks ys) (hc : ks.len ≤ c)
    (hb : Buf w B 281 bb sv xs) (hB : B ≤ w.heap.size) (hp : ∀ g, p g → g < w.heap.size ∧ g ≠ bb ∧ some g ≠ sv.ownBlock) (henc : ks.enc.length ≤ 30000) (hxs : xs.length + 5 + ks.enc.length ≤ 200000) :
    Calls Tryz.prog 78 #[.iface 279 (.pointer (some ⟨bb, 0, none⟩)), .iface 295 (.slice A ks.len c)] w (Gave w B bb sv xs (V.mk 65 m f s t ks fs).enc) := by
  have HV := Lib.hid hV
  have HG := Lib.hid hgood
  have Hok := Lib.hid hok
  have HR := Lib.hid hR
  have HA := Lib.hid hAs
  have HP := Lib.hid hp
  clear hV hgood hok hR hAs hp
  go_enter Tryz.func78, Tryz.ntmps78
  go_wp2_with fail
  have hk0 : Blk ((w.alloc (.cells (arr9 65) 339)).alloc (.cells #[.slice none 0 0] 281)) w.heap.size 339 (arr9 65) := (Blk.new w 339 _).alloc _
  have hbi : Buf ((w.alloc (.cells (arr9 65) 339)).alloc (.cells #[.slice none 0 0] 281)) (w.heap.size + 1) 281 (w.heap.size + 1) (.slice none 0 0) [] := by
    have := Buf.new (w.alloc (.cells (arr9 65) 339)) (B := w.heap.size + 1) 281 (by decide) (by simp)
    simpa using this
  have hbel : Below w.heap.size w ((w.alloc (.cells (arr9 65) 339)).alloc (.cells #[.slice none 0 0] 281)) := ((Below.refl _ _).alloc (Nat.le_refl _) _).alloc (by simp) _
  have hs0 : ((w.alloc (.cells (arr9 65) 339)).alloc (.cells #[.slice none 0 0] 281)).heap.size = w.heap.size + 2 := by simp
  generalize (w.alloc (.cells (arr9 65) 339)).alloc (.cells #[.slice none 0 0] 281) = w0 at hk0 hbi hbel hs0 ⊢
  go_loopw [158] (fun i wr => ∃ (k : Nat) (rest : Vs) (done : List UInt8) (svi : Value), i = .int .i64 k ∧ rest.len + k = ks.len ∧ rest.ok ∧ rest.good ∧ rest.ht ≤ n ∧ done ++ rest.enc = ks.enc ∧ AnyVs w p rest (ys.drop k) ∧
    Buf wr (w.heap.size + 1) 281 (w.heap.size + 1) svi done ∧ Blk wr w.heap.size 339 (arr9 65) ∧ Below w.heap.size w wr) (fun i _ => ks.len - (intOf i).toNat)
  case atStart => exact ⟨0, ks, [], _, rfl, rfl, Hok.out, HG.out, hht, rfl, HA.out, hbi, hk0, hbel⟩
  case round =>
    obtain ⟨k, rest, done, svi, rfl, hrest, hrok, hrg, hrh, hdone, hrA, hbi', hkr, hbel'⟩ := hrel
    have hdl : done.length + rest.enc.length = ks.enc.length := by rw [← hdone, List.length_append]
    have Hdone := Lib.hid hdone
    clear hdone hbi hk0 hbel hs0
    have hszr := hbi'.lt
    cases rest with
    | nil =>
      rw [Vs.len] at hrest
      have hde : done = ks.enc := by simpa [Vs.enc] using Hdone.out
      subst hde
      have hkl : k = ks.len := by omega
      subst hkl
      have hw32 := wrap32 ks.enc.length (by omega)
      have hcall := arrB32 (w := wr.drew) [.int .u8 65] [.int .u8 0, .int .u8 0, .int .u8 0, .int .u8 0] 0 0 0 0 1 4 8 ks.enc.length (by omega) (by omega) rfl hkr.drew
      have HC := Lib.hid hcall
      have HL := Lib.hid (len_any hbi'.drew)
      clear hcall hrest hrA
      go_wp2_with fail
      go_region_with (first
        | (go_at_call 81; refine HL.out.mono ?_; rintro e wz ⟨rfl, rfl⟩)
        | (go_at_call 66; refine HC.out.mono ?_; rintro e w1 ⟨⟨rfl, hk, hbl, hsz⟩, hbut⟩))
      all_goals
        have hbel1 : Below w.heap.size w w1 := hbel'.drew.trans (hbl _ (Nat.le_refl _))
        have hb1 := hb.belowAll hbel1
        have hs1 : w1.heap.size = wr.heap.size := hsz
        have hrb : Rb w1 w1.heap.size (.slice (some ⟨w.heap.size, 0, none⟩) 5 9) (65 :: be ks.enc.length 4) := Rb.pre hk (by omega) (by simp [be_len]) (by omega) (by
          have hl : (bcells (65 :: be ks.enc.length 4)).length = 5 := by simp [bcells_length, be_len]
          have := List.take_left (l₁ := bcells (65 :: be ks.enc.length 4)) (l₂ := [.int .u8 0, .int .u8 0, .int .u8 0, .int .u8 0])
          rw [hl] at this
          exact this)
        have hnr : ∀ g, svi.ownBlock = some g → g ∉ [w.heap.size] := fun g hg => by
          have := (hbi'.row_lt g hg).1
          simp
          omega
        have hbi1 : Buf w1 (w.heap.size + 1) 281 (w.heap.size + 1) svi ks.enc := hbi'.drew.but hbut (by simp) hnr
        have hwr := write_any hb1.drew hrb.drew (by simp; omega) (by simp [be_len]; omega)
        have HW := Lib.hid hwr
        have HS1 := Lib.hid hs1
        clear hk hbl hsz hbut hrb hwr hs1 hnr
        go_wp2_with fail
        go_region_with (refine HW.out.mono ?_; rintro e w2 ⟨rfl, sv2, hb2, hw2⟩)
        all_goals
          have hW2 := (Wr.ofBelow hbel1 (Nat.le_refl _) sv.ownBlock).drew.trans hw2
          have hbi2 : Buf w2 (w.heap.size + 1) 281 (w.heap.size + 1) svi ks.enc := hbi1.drew.wr hw2 (by have := hb.lt; omega) (fun e => by have := (hb.row_lt _ e.symm).2; omega)
            (fun g hg => by
              have h1 := (hbi1.row_lt g hg).1
              exact ⟨by have := hb.lt; omega, fun e => by have := (hb.row_lt g e.symm).2; omega⟩)
          have hsz2 := hW2.size
          have HBy := Lib.hid (bytes_any hbi2.drew)
          have hwr2 := write_any hb2.drew hbi2.drew.rb (by simp; omega) (by simp [be_len]; omega)
          have HW2 := Lib.hid hwr2
          clear hwr2
          go_wp2_with fail
          go_region_with (first
            | (go_at_call 38; refine HBy.out.mono ?_; rintro e wz ⟨rfl, rfl⟩)
            | (refine HW2.out.mono ?_; rintro e w3 ⟨rfl, sv3, hb3, hw3⟩))
          all_goals
            go_wp2
            go_ret
            refine ⟨rfl, sv3, ?_, hW2.drew.trans hw3⟩
            simpa [V.enc] using hb3
    | cons u q =>
      rw [Vs.len] at hrest
      have hk0 : (0 : Int) ≤ (k : Int) := by omega
      have hk1 : (k : Int) < (ks.len : Int) := by omega
      obtain ⟨b, off, x, rfl, hpb, e0, hxv, hrA2⟩ := AnyVs.at_ HR.out hrA
      rw [← World.cell?_of_block (w := w) (w' := wr) (a := ⟨b, off + k, none⟩) (hbel'.block b (HP.out b hpb).1)] at e0
      rw [Vs.ok] at hrok
      obtain ⟨o2, o3⟩ := hrok
      rw [Vs.good] at hrg
      obtain ⟨g3, g4⟩ := hrg
      have hlen2 : (Vs.cons u q).enc.length = u.enc.length + q.enc.length := by rw [Vs.enc, List.length_append]
      have hht2 : u.ht ≤ n ∧ q.ht ≤ n := by
        rw [Vs.ht] at hrh; omega
      have hcall := HV.out u x p (w.heap.size + 1) (w.heap.size + 1) svi done wr hht2.1 g3 o2 (hxv.keep (fun g hg => hbel'.block g (HP.out g hg).1) (fun g hg => hg)) hbi' (by omega)
        (fun g hg => ⟨by have := (HP.out g hg).1; omega, by have := (HP.out g hg).1; omega, fun e => by have := (HP.out g hg).1; have := (hbi'.row_lt g e.symm).1; omega⟩) (by omega) (by omega)
      have HCall := Lib.hid hcall
      clear hcall
      go_wp2_with fail
      refine HCall.out.mono ?_
      rintro e w3 ⟨rfl, sv3, hb3, hw3⟩
      have hkr3 := hw3.blk hkr (by omega) (hbi'.row_ne hkr (by decide))
      have hbel3 : Below w.heap.size w w3 := hbel'.trans (hw3.below (by omega) (fun g hg => by have := (hbi'.row_lt g hg).1; omega) hbel'.size)
      go_wp2
      refine ⟨⟨k + 1, q, _, sv3, by go_num, by omega, o3, g4, hht2.2, ?_, hrA2, hb3, hkr3, hbel3⟩, by simp [intOf]; omega⟩
      rw [← Hdone.out, Vs.enc]
      simp

end Go.Proofs.YtabeppaehenefaaGreat

namespace Go.Proofs.YtabeppaehenefaaGreat
open Go.RowKit Go.Sort Go.Maps
set_option linter.unusedVariables false

theorem V.enc_pos : ∀ v : V, 1 ≤ v.enc.length
  | .mk k n f s t ks fs => by rw [V.enc, List.length_cons]; omega
theorem Fs.len_enc : ∀ fs : Fs, fs.len ≤ fs.enc.length
  | .nil => Nat.le_refl _
  | .cons name v r => by
    have := Fs.len_enc r
    rw [Fs.len, Fs.enc, List.length_append, List.length_append, List.length_cons]
    omega
theorem Vs.len_enc : ∀ ks : Vs, ks.len ≤ ks.enc.length
  | .nil => Nat.le_refl _
  | .cons v r => by
    have := Vs.len_enc r
    have := v.enc_pos
    rw [Vs.len, Vs.enc, List.length_append]
    omega

theorem write_all : ∀ n : Nat, WVal n ∧ WTab n
  | 0 => by
    have h : WVal 0 := by
      intro v x p B bb sv xs w hht
      obtain ⟨k, m, f, s, t, ks, fs⟩ := v
      rw [V.ht] at hht
      omega
    exact ⟨h, write_table 0 h⟩
  | n + 1 => by
    have ih := write_all n
    have h : WVal (n + 1) := by
      intro v x p B bb sv xs w hht hgood hok hA hb hB hp henc hxs
      obtain ⟨k, m, f, s, t, ks, fs⟩ := v
      have hx2 : xs.length ≤ 200000 := by omega
      rw [AnyV] at hA
      rcases hA with hs | ⟨rfl, A, c, rfl, hc, hr⟩ | ⟨rfl, A, c, ys, rfl, hc, hr, hv⟩ | ⟨rfl, b, D, rfl, hpb, hm, he⟩
      · have hS := hs
        unfold AnyS at hs
        rcases hs with ⟨rfl, _⟩ | ⟨rfl, _⟩ | ⟨rfl, _⟩ | ⟨rfl, _⟩ | ⟨rfl, _⟩ | ⟨rfl, _⟩ | ⟨rfl, _⟩ | ⟨rfl, _⟩ | ⟨rfl, _⟩ | ⟨rfl, _⟩ | ⟨rfl, _⟩ | ⟨rfl, _⟩
        · exact wf_116 m f s t ks fs x B bb sv xs w hS hgood hok hb hB hx2
        · exact wf_98 m f s t ks fs x B bb sv xs w hS hgood hok hb hB hx2
        · exact wf_66 m f s t ks fs x B bb sv xs w hS hgood hok hb hB hx2
        · exact wf_115 m f s t ks fs x B bb sv xs w hS hgood hok hb hB hx2
        · exact wf_73 m f s t ks fs x B bb sv xs w hS hgood hok hb hB hx2
        · exact wf_108 m f s t ks fs x B bb sv xs w hS hgood hok hb hB hx2
        · exact wf_102 m f s t ks fs x B bb sv xs w hS hgood hok hb hB hx2
        · exact wf_100 m f s t ks fs x B bb sv xs w hS hgood hok hb hB hx2
        · exact wf_68 m f s t ks fs x B bb sv xs w hS hgood hok hb hB hx2
        · exact wf_84 m f s t ks fs x B bb sv xs w hS hgood hok hb hB hx2
        · exact wf_83 m f s t ks fs x B bb sv xs w hS hgood hok hb hB hx2
        · exact wf_86 m f s t ks fs x B bb sv xs w hS hgood hok hb hB hx2
      · have ht : t.size ≤ 2000 := by rw [V.good] at hgood; exact hgood.1
        exact wf_120 m f s t ks fs ht hc hr hb hB hp hx2
      · rw [V.good] at hgood
        rw [V.ok] at hok
        rw [V.ht] at hht
        have hl : (V.mk 65 m f s t ks fs).enc.length = 5 + ks.enc.length := by simp [V.enc, be_len]; omega
        have hg : ks.good := by
          rcases hgood.2 with h | ⟨_, h, _⟩ | ⟨h, _⟩
          · simp [Simple] at h
          · exact h
          · exact absurd h (by decide)
        exact wf_65 n ih.1 m f s t ks fs (by omega) hg hok.2.2.2.2.2.1 hok.2.2.2.2.2.2.2.1 hr hv hc hb hB hp (by omega) (by omega)
      · rw [V.good] at hgood
        rw [V.ok] at hok
        rw [V.ht] at hht
        have hl : (V.mk 70 m f s t ks fs).enc.length = 5 + fs.enc.length := by simp [V.enc, be_len]; omega
        have hg : fs.good none := by
          rcases hgood.2 with h | ⟨h, _⟩ | ⟨_, h, _⟩
          · simp [Simple] at h
          · exact absurd h (by decide)
          · exact h
        have := fs.len_enc
        exact wf_70 n ih.2 m f s t ks fs (by omega) hg hok.2.2.2.2.2.2.1 (by omega) ⟨D, hpb, hm, he⟩ hb hB hp (by omega) (by omega)
    exact ⟨h, write_table (n + 1) h⟩

/-- writeTable -/
theorem writeTable_any {fs : Fs} {prev : Option ByteArray} {b : Nat} {p : Nat → Prop} {B bb : Nat} {sv : Value} {xs : List UInt8} {w : World} (hgood : fs.good prev) (hok : fs.ok) (hT : TabV w p fs b) (hb : Buf w B 281 bb sv xs) (hB : B ≤ w.heap.size)
    (hp : ∀ g, p g → g < w.heap.size ∧ g ≠ bb ∧ some g ≠ sv.ownBlock) (henc : fs.enc.length ≤ 30000) (hxs : xs.length + 4 + fs.enc.length ≤ 200000) :
    Calls Tryz.prog 74 #[.iface 279 (.pointer (some ⟨bb, 0, none⟩)), .map (some b)] w (Gave w B bb sv xs (tab fs)) :=
  (write_all fs.ht).2 fs prev b p B bb sv xs w (Nat.le_refl _) hgood hok (by have := fs.len_enc; omega) hT hb hB hp henc hxs

end Go.Proofs.YtabeppaehenefaaGreat
