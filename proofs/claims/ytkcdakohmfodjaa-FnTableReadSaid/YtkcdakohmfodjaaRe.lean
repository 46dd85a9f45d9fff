/-
  Readers: readBytes, readLongstr.
-/
import Derived.Test.YtkcdakohmfodjaaRd
import Derived.Lib.AppendZerosOnto
namespace Go.Proofs.Ytkcdakohmfodjaa
open Go.RowKit
attribute [local go_sem ↓] Go.wp_at_zero Go.wp_at_succ

theorem zero_row (k : Nat) : (Builtin.zeroCells (Value.int .u8 0).cells k).toList = bcells (List.replicate k 0) := by
  have : (Value.int .u8 0).cells = #[.int .u8 0] := rfl
  apply List.ext_getElem?
  intro j
  simp only [Builtin.zeroCells, this, bcells, List.getElem?_map, Array.toList_map, Array.toList_range, List.getElem?_replicate]
  by_cases hj : j < k
  · simp [hj, Nat.mod_one]
  · simp [hj]

theorem underlying3 : Try.prog.underlying 3 = some (.int .i64) := by kernel_rfl

/-- append(buf, make([]byte, k)...): in place or in a new row -/
theorem run_append_zeros {w : World} {g n cap k : Nat} {cur : Array Value} {xs : List UInt8} (ty : TypeId) (hb : Blk w g 5 cur) (hcs : cur.size = cap) (hn : xs.length = n) (hnc : n ≤ cap) (htake : cur.toList.take n = bcells xs)
    (hk : 0 < k) (hlen : n + k ≤ 1099511627776) (B : Nat) (hB : B ≤ g) :
    ∃ g' c cur' w', (Builtin.append_ #[27, 3] ty #[.slice (some ⟨g, 0, none⟩) n cap, .int .i64 k]).run Try.prog w = .ok (.slice (some ⟨g', 0, none⟩) (n + k) c) w' ∧ Blk w' g' 5 cur' ∧ cur'.size = c ∧ n + k ≤ c ∧ cur'.toList.take n = bcells xs ∧ B ≤ g' ∧ Below B w w' := by
  obtain ⟨i0, hi, hz0, hz1, hz2⟩ := info_parts info5
  have hl : (bcells (List.replicate k 0)).length = k := by rw [bcells_length, List.length_replicate]
  have hw : IntKind.i64.wrap (k : Int) = k := by rw [IntKind.wrap_i64]; omega
  by_cases hroom : n + k ≤ cap
  · have hst := run_storeCells_at Try.prog g n 5 (bcells (List.replicate k 0)) 0 cur w hb (by rw [hl]; omega) (bcells_one _)
    simp only [Nat.add_zero] at hst
    have hzr := zero_row k
    have hk0 : k ≠ 0 := by omega
    have hneg : ¬ ((k : Int) < 0) := by omega
    have h48i : ¬ (281474976710656 < (k : Int) * (i0.bytes : Int)) := by
      rw [hz2]
      omega
    refine ⟨g, cap, (cur.toList.take n ++ bcells (List.replicate k 0) ++ cur.toList.drop (n + (bcells (List.replicate k 0)).length)).toArray, (w.setRow g (cur.toList.take n ++ bcells (List.replicate k 0) ++ cur.toList.drop (n + (bcells (List.replicate k 0)).length)).toArray), ?_, setRow_heap w g cur _ 5 (0, 0) hb, ?_, hroom, ?_, hB, ?_⟩
    · simp [Builtin.append_, run_underlying Try.underlying27, run_underlying underlying3, sizeOf, typeInfo, zeroValue, hi, hz0, hz1, asInt, asIntOf, hw, hneg, h48i, hroom, hk0, hzr, Addr.add_lit, hst]
    · simp only [List.size_toArray, List.length_append, List.length_take, List.length_drop, Array.length_toList, hl]
      omega
    · simp only
      rw [List.append_assoc, List.take_append_of_le_length (by rw [htake, bcells_length]; omega), List.take_of_length_le (by rw [htake, bcells_length]; omega), htake]
    · exact ⟨rfl, rfl, rfl, by simp [World.setRow], fun x hx => setRow_other w g x _ (by omega)⟩
  · have hfc := run_firstCells_some (P := Try.prog) w.drew i0.size n ⟨g, 0, none⟩ n cap (bcells xs) (by rw [bcells_length, hn, hz1]; omega) (fun j v hj => by
      have hadd : (⟨g, 0, none⟩ : Addr).add j = ⟨g, j, none⟩ := by unfold Addr.add; split <;> simp_all
      rw [hadd, hb.drew.cell j, ← hj, ← htake]
      have hj' : j < n := by
        have := (List.getElem?_eq_some_iff.1 hj).1
        rwa [bcells_length, hn] at this
      rw [List.getElem?_take_of_lt hj', Array.getElem?_toList])
    have hr := Lib.run_append_grow_zeros (P := Try.prog) w 27 3 ty 5 i0 (.int .u8 0) .i64 .i64 Try.underlying27 underlying3 hi hz0 (some ⟨g, 0, none⟩) n cap (bcells xs) hfc k hk (by omega) (by omega) (by omega) (by rw [hz2]; omega) (growslice_fits (by omega) (by rw [hz2]; omega))
    have hge := grownCap_ge w (n + k) cap 5
    have hzs : ∀ m, (Builtin.zeroCells (Value.int .u8 0).cells m).size = m := fun m => by rw [← Array.length_toList, zero_row, bcells_length, List.length_replicate]
    refine ⟨_, _, _, _, hr, Blk.new w.drew 5 _, ?_, hge, ?_, by have := hb.lt; simp; omega, (((Below.refl _ _).drew).alloc (by have := hb.lt; simp; omega) _)⟩
    · simp only [Array.size_append, hzs, List.size_toArray, bcells_length, hn]
      omega
    · simp only [Array.toList_append]
      rw [List.append_assoc, List.take_append_of_le_length (by rw [bcells_length]; omega), List.take_of_length_le (by rw [bcells_length]; omega)]

theorem spl_take (cs : Array Value) (o : Nat) (xs : List UInt8) (h : o ≤ cs.size) : (spl cs o xs).toList.take (o + xs.length) = cs.toList.take o ++ bcells xs := by
  unfold spl
  have h1 : (cs.toList.take o).length = o := by rw [List.length_take, Array.length_toList]; omega
  have h2 := bcells_length xs
  simp only
  rw [← List.append_assoc, List.take_append_of_le_length (by rw [List.length_append, h1, h2]; omega), List.take_of_length_le (by rw [List.length_append, h1, h2]; omega)]

/-- min64 at the size of a chunk -/
theorem chunk_any (a N : Nat) (hN : N = min a 65536) (w : World) : Calls Try.prog 113 #[.int .i64 a, .int .i64 65536] w fun e w' => e = .returned (.int .i64 N) ∧ w' = w := by
  by_cases h : (a : Int) < 65536
  · have hm : N = a := by omega
    subst hm
    clear hN
    go_enter Try.func113, Try.ntmps113
    go_wp2_with fail
    go_ret
    exact ⟨rfl, rfl⟩
  · have hm : N = 65536 := by omega
    subst hm
    clear hN
    go_enter Try.func113, Try.ntmps113
    go_wp2_with fail
    go_ret
    exact ⟨rfl, rfl⟩

theorem made27 (N : Nat) (h : N ≤ 65536) (w : World) : ∃ cs : Array Value, cs.size = N ∧ (Instr.makeSlice 27 (.int .i64 0) (.int .i64 N)).run Try.prog w = .ok (.slice (some ⟨w.heap.size, 0, none⟩) 0 N) (w.alloc (.cells cs 5)) := by
  obtain ⟨i0, hi, hz0, hz1, hz2⟩ := info_parts info5
  have hr := run_make (P := Try.prog) w 27 5 i0 (.int .u8 0) Try.underlying27 hi hz0 .i64 .i64 0 N (Int.le_refl _) (by omega) (by rw [hz2]; omega) (by omega)
  simp only [Int.toNat_zero, Int.toNat_natCast, hz1, Nat.mul_one] at hr
  exact ⟨_, size_madeCells _ _, hr⟩

/-- what a read of n bytes comes to -/
def BytesPost (w : World) (B : Nat) (r : Value) (ns : List Nat) (ys : List UInt8) (S : List Nat) (R : Option Nat) (n : Nat) (e : Ending) (w' : World) : Prop :=
  (n ≤ avail ns ys ∧ ∃ (g c : Nat) (cs : Array Value), e = .returned (.tuple #[.slice (some ⟨g, 0, none⟩) n c, .nilIface]) ∧ Blk w' g 5 cs ∧ cs.toList.take n = bcells (ys.take n) ∧ w.heap.size ≤ g ∧ n ≤ c ∧ Rr w' B r (ns.map (· - n)) (ys.drop n) S R ∧ But w w' S) ∨
  (avail ns ys < n ∧ ∃ s : ByteArray, e = .returned (.tuple #[.slice none 0 0, .iface 179 (.string s)]) ∧ (∃ j, Rr w' B r (ns.map (· - j)) (ys.drop j) S R) ∧ But w w' S)

theorem Rr.under {w w1 : World} {B : Nat} {r : Value} {ns : List Nat} {ys : List UInt8} {S : List Nat} {R : Option Nat} (h : Rr w B r ns ys S R) {A : Nat} (hb : Below A w w1) (hB : B ≤ A) (hR : ∀ x, R = some x → x < A) : Rr w1 B r ns ys S R :=
  h.keep (fun x hx => hb.block x (by have := h.lt x hx; omega)) (fun x hx => hb.block x (hR x hx))

set_option maxRecDepth 100000 in
set_option maxHeartbeats 4000000 in
/-- readBytes -/
theorem readBytes_any {w : World} {B : Nat} {r : Value} {ns : List Nat} {ys : List UInt8} {S : List Nat} {R : Option Nat} {n : Nat} (h : Rr w B r ns ys S R) (hs : Small ns) (hys : ys.length ≤ 1000000000) (hRl : ∀ x, R = some x → x < w.heap.size) (hB : B ≤ w.heap.size) (hn : n ≤ 2147483647) :
    Calls Try.prog 88 #[r, .int .i64 n] w (BytesPost w B r ns ys S R n) := by
  obtain ⟨T0, a0, hr0⟩ := h.shape
  subst hr0
  obtain ⟨N, hN⟩ : ∃ N, N = min n 65536 := ⟨_, rfl⟩
  have hch := chunk_any n N hN w
  obtain ⟨c0, hc0, hmk⟩ := made27 N (by omega) w
  have HC := Lib.hid hch
  have HN := Lib.hid hN
  have HC0 := Lib.hid hc0
  have H := Lib.hid h
  have HRl := Lib.hid hRl
  have HS := Lib.hid hs
  have hlt0 : ¬ ((n : Int) < 0) := by omega
  clear hch hN hc0 h hRl hs
  go_enter Try.func88, Try.ntmps88
  go_wp2_with fail
  refine HC.out.mono ?_
  rintro e w1 ⟨rfl, rfl⟩
  go_wp2_with fail
  go_loopw [6] (fun v wr => ∃ (k c g : Nat) (cs : Array Value), v = .slice (some ⟨g, 0, none⟩) k c ∧ k ≤ n ∧ k ≤ avail ns ys ∧ k ≤ c ∧ cs.size = c ∧ Blk wr g 5 cs ∧ cs.toList.take k = bcells (ys.take k) ∧ w1.heap.size ≤ g ∧
      Rr wr B (.iface T0 (.pointer (some a0))) (ns.map (· - k)) (ys.drop k) S R ∧ But w1 wr S) (fun v _ => match v with | .slice _ k _ => n - k | _ => 0)
  case atStart => exact ⟨0, N, w1.heap.size, c0, rfl, Nat.zero_le _, Nat.zero_le _, Nat.zero_le _, HC0.out, Blk.new _ _ _, by simp [bcells], Nat.le_refl _, by simpa using H.out.alloc hB _ HRl.out, (But.refl _ _).alloc _⟩
  case round =>
    obtain ⟨k, c, g, cs, rfl, hkn, hka, hkc, hcs, hg, htk, hgB, hrr, hbut⟩ := hrel
    have hal := avail_le ns ys
    rcases Nat.eq_or_lt_of_le hkn with hk | hk
    · subst hk
      have HG := Lib.hid hg
      have HT := Lib.hid htk
      have HR := Lib.hid hrr
      have HCs := Lib.hid hcs
      clear hg htk hrr hcs
      go_wp2_with fail
      go_ret2
      exact .inl ⟨hka, g, c, cs, rfl, HG.out, HT.out, hgB, hkc, HR.out, hbut⟩
    · obtain ⟨M, hM⟩ : ∃ M, M = min (n - k) 65536 := ⟨_, rfl⟩
      have hch := chunk_any (n - k) M hM wr
      have hsw := sub_wrap n k (by omega) (by omega)
      have hM1 : 0 < M ∧ k + M ≤ n := by omega
      have hl1 : (ys.take k).length = k := by rw [List.length_take]; omega
      obtain ⟨g2, c2, cs2, w2, hrun, hg2, hs2, hkM, ht2, hgB2, hbel⟩ := run_append_zeros (w := wr) (g := g) (n := k) (cap := c) (k := M) (cur := cs) (xs := ys.take k) 27 hg hcs hl1 hkc htk hM1.1 (by omega) w1.heap.size hgB
      have hr2 := hrr.under hbel hB HRl.out
      have hb2 : But w1 w2 S := ⟨hbel.os.trans hbut.os, hbel.tape.trans hbut.tape, hbel.output.trans hbut.output, Nat.le_trans hbut.size hbel.size, fun x hx hS => (hbel.block x hx).trans (hbut.block x hx hS)⟩
      have hf := readFull_any (w := w2) (g := g2) (o := k) (m := M) (c := c2 - k) (cs := cs2) hr2 (HS.out.sub k) hg2 (by omega) (by omega) (by omega) (by omega) (by rw [List.length_drop]; omega)
      have hsl : (Instr.sliceAt 27 (.slice (some ⟨g2, 0, none⟩) (k + M) c2) (some (.int .i64 k)) none none).run Try.prog w2 = .ok (.slice (some ⟨g2, k, none⟩) M (c2 - k)) w2 := by
        have := run_from w2 ⟨g2, 0, none⟩ (k + M) c2 k (by omega) hkM
        have hne : ¬ (c2 = k) := by omega
        have hadd : (⟨g2, 0, none⟩ : Addr).add k = ⟨g2, k, none⟩ := by unfold Addr.add; split <;> simp_all
        rw [this, if_neg hne, hadd, Nat.add_sub_cancel_left]
      have hav := avail_drop ns ys k
      have htk2 : cs2.toList.take k = bcells (ys.take k) := ht2
      have HCh := Lib.hid hch
      have HM := Lib.hid hM
      have HM1 := Lib.hid hM1
      have HL1 := Lib.hid hl1
      have HRun := Lib.hid hrun
      have HS2 := Lib.hid hs2
      have HT2 := Lib.hid ht2
      have HF := Lib.hid hf
      have HSl := Lib.hid hsl
      have HAv := Lib.hid hav
      have HKM := Lib.hid hkM
      have HB2 := Lib.hid hb2
      clear hch hM hM1 hl1 hrun hs2 ht2 hf hsl hav hkM hb2 hg hcs htk hrr hbut htk2 hg2 hr2 hbel hal
      have hlt : (k : Int) < (n : Int) := by omega
      by_cases hz : k + M ≤ avail ns ys
      · have hz2 : M ≤ avail (ns.map (· - k)) (ys.drop k) := by rw [HAv.out]; omega
        have HZ := Lib.hid hz
        have HZ2 := Lib.hid hz2
        clear hz hz2
        go_wp2_with fail
        refine HCh.out.mono ?_
        rintro e w3 ⟨rfl, rfl⟩
        go_wp2_with (first | (at_builtin; refine wpList_append_run rfl (.tmp 29) (.tmp 30) 27 3 rfl _ _ _ w2 rfl rfl HRun.out ?_) | refine wpList_slice_run rfl 27 (.tmp 34) (.tmp 35) rfl _ _ _ w2 rfl rfl HSl.out ?_)
        refine HF.out.mono ?_
        rintro e w4 hp
        obtain ⟨rfl, q1, q2, q3⟩ := fullpost_ok hp HZ2.out
        go_wp2_with fail
        have hkM := HKM.out
        have hM1 := HM1.out
        have hs2 := HS2.out
        have hz := HZ.out
        have hl1 := HL1.out
        have hlM : ((ys.drop k).take M).length = M := by rw [List.length_take, List.length_drop]; have := avail_le ns ys; omega
        refine ⟨⟨k + M, c2, g2, _, rfl, hM1.2, hz, hkM, ?_, q1, ?_, hgB2, ?_, HB2.out.weaken q3 (fun x hx => ?_)⟩, ?_⟩
        · rw [spl_size _ _ _ (by rw [hlM]; omega)]; exact hs2
        · have := spl_take cs2 k ((ys.drop k).take M) (by omega)
          rw [hlM, HT2.out, ← bcells_append, ← List.take_add] at this
          exact this
        · rw [← map_sub_sub, ← List.drop_drop]
          exact q2
        · rcases List.mem_cons.1 hx with e | e
          · exact .inr (by omega)
          · exact .inl e
        · show n - (k + M) < n - k
          omega
      · have hz2 : avail (ns.map (· - k)) (ys.drop k) < M := by rw [HAv.out]; omega
        have HZ := Lib.hid hz
        have HZ2 := Lib.hid hz2
        clear hz hz2
        go_wp2_with fail
        refine HCh.out.mono ?_
        rintro e w3 ⟨rfl, rfl⟩
        go_wp2_with (first | (at_builtin; refine wpList_append_run rfl (.tmp 29) (.tmp 30) 27 3 rfl _ _ _ w2 rfl rfl HRun.out ?_) | refine wpList_slice_run rfl 27 (.tmp 34) (.tmp 35) rfl _ _ _ w2 rfl rfl HSl.out ?_)
        refine HF.out.mono ?_
        rintro e w4 hp
        obtain ⟨j, s, rfl, _, ⟨j', q2⟩, q3⟩ := fullpost_short hp HZ2.out
        have hen := fun w => eof_nil s w
        rw [map_sub_sub, List.drop_drop] at q2
        have HQ := Lib.hid q2
        clear hp q2
        go_wp2_with fail
        go_ret2
        exact .inr ⟨by have := HZ.out; have := HM1.out; omega, s, rfl, ⟨_, HQ.out⟩, HB2.out.weaken q3 (fun x hx => by
          rcases List.mem_cons.1 hx with e | e
          · exact .inr (by omega)
          · exact .inl e)⟩

/-- what readLongstr comes to: the string that lies ahead, or an error -/
def LongPost (w : World) (B : Nat) (r : Value) (ns : List Nat) (ys : List UInt8) (S : List Nat) (R : Option Nat) (e : Ending) (w' : World) : Prop :=
  (4 ≤ avail ns ys ∧ 4 + num (ys.take 4) ≤ avail ns ys ∧ e = .returned (.tuple #[.string ⟨((ys.drop 4).take (num (ys.take 4))).toArray⟩, .nilIface]) ∧ Rr w' B r (ns.map (· - (4 + num (ys.take 4)))) (ys.drop (4 + num (ys.take 4))) S R ∧ But w w' S) ∨
  ((avail ns ys < 4 ∨ avail ns ys < 4 + num (ys.take 4)) ∧ ∃ s : ByteArray, e = .returned (.tuple #[.string ⟨#[]⟩, .iface 179 (.string s)]) ∧ (∃ j, Rr w' B r (ns.map (· - j)) (ys.drop j) S R) ∧ But w w' S)

theorem conv_row {w : World} {g c n : Nat} {cs : Array Value} {xs : List UInt8} (hg : Blk w g 5 cs) (hl : xs.length = n) (ht : cs.toList.take n = bcells xs) : (convert 27 9 (.slice (some ⟨g, 0, none⟩) n c)).run Try.prog w = .ok (.string ⟨xs.toArray⟩) w := by
  subst hl
  refine run_convert_bytes_back w 27 9 5 ⟨g, 0, none⟩ c xs Try.underlying27 under5 Try.underlying9 fun j hj => ?_
  have hadd : (⟨g, 0, none⟩ : Addr).add j = ⟨g, j, none⟩ := by unfold Addr.add; split <;> simp_all
  rw [hadd, hg.cell j, ← Array.getElem?_toList, ← List.getElem?_take_of_lt hj, ht]
  simp [bcells, List.getElem?_eq_getElem hj]

set_option maxRecDepth 100000 in
set_option maxHeartbeats 4000000 in
/-- readLongstr -/
theorem readLong_any {w : World} {B : Nat} {r : Value} {ns : List Nat} {ys : List UInt8} {S : List Nat} {R : Option Nat} (h : Rr w B r ns ys S R) (hs : Small ns) (hys : ys.length ≤ 1000000000) (hRl : ∀ x, R = some x → x < w.heap.size) (hB : B ≤ w.heap.size) (hnum : 4 ≤ avail ns ys → num (ys.take 4) ≤ 2147483647) :
    Calls Try.prog 71 #[r] w (LongPost w B r ns ys S R) := by
  obtain ⟨T0, a0, hr0⟩ := h.shape
  subst hr0
  have hpS : w.heap.size ∉ S := fun hm => by have := h.lt _ hm; omega
  have hpR : R ≠ some w.heap.size := fun e => by have := hRl _ e; omega
  have h0 := h.alloc hB (.cells #[.int .u32 0] 119) hRl
  have hk0 := Blk.new w 119 #[.int .u32 0]
  have hf := rf_183 (pb := w.heap.size) (q := 0) (T := 119) (cs := #[.int .u32 0]) (old := .int .u32 0) h0 hs hys hk0 rfl rfl hpS hpR (fun x hx => by have := hRl x hx; simp; omega) (by simp; omega)
  have HF := Lib.hid hf
  clear hf h0
  go_enter Try.func71, Try.ntmps71
  go_wp2_with fail
  refine HF.out.mono ?_
  rintro e w1 (⟨ha, rfl, p1, r1, b1⟩ | ⟨ha, s, rfl, p1, _, hrj, b1⟩)
  · obtain ⟨n, hnn⟩ : ∃ n, n = num (ys.take 4) := ⟨_, rfl⟩
    have p1 : Blk w1 w.heap.size 119 #[.int .u32 n] := by simpa [hnn] using p1
    have hn2 := hnum ha
    rw [← hnn] at hn2
    have c0 : w1.cell? ⟨w.heap.size, 0, none⟩ = some (.int .u32 n) := by rw [p1.cell]; rfl
    have hle : ¬ (2147483647 < (n : Int)) := by omega
    have hbyt := readBytes_any (n := n) r1 (hs.sub 4) (by rw [List.length_drop]; omega) (fun x hx => by have := hRl x hx; have := b1.size; simp at this; omega) (by have := b1.size; simp at this; omega) hn2
    have HBy := Lib.hid hbyt
    have HN := Lib.hid hnn
    have HA := Lib.hid ha
    have hbut : But w w1 S := ((But.refl w S).alloc (.cells #[.int .u32 0] 119)).weaken b1 (fun x hx => by
      rcases List.mem_cons.1 hx with e | e
      · exact .inr (by omega)
      · exact .inl e)
    have HBut := Lib.hid hbut
    have hsz : w.heap.size < w1.heap.size := by have := b1.size; simp at this; omega
    have hw : IntKind.i64.wrap (n : Int) = (n : Int) := IntWalk.i64_in _ (by omega)
    have hl := avail_le ns ys
    have hav := avail_drop ns ys 4
    have HL := Lib.hid hl
    have HAv := Lib.hid hav
    clear hbyt hnn ha hbut b1 hnum hl hav r1
    go_wp2_with fail
    refine HBy.out.mono ?_
    rintro e w2 (⟨hb, g, c, cs, rfl, g2, ht, hg0, hnc, r2, b2⟩ | ⟨hb, s, rfl, ⟨j, hrj⟩, b2⟩)
    · have hl1 : ((ys.drop 4).take n).length = n := by rw [List.length_take, List.length_drop]; have := HL.out; have := HA.out; have := HAv.out; omega
      have hcv := conv_row (c := c) g2 hl1 ht
      have HB := Lib.hid hb
      have HR2 := Lib.hid r2
      clear hb r2 ht g2 hl1
      go_wp2_with fail
      go_ret2
      refine .inl ⟨HA.out, ?_, ?_, ?_, HBut.out.trans b2⟩
      · rw [← HN.out]; have := HB.out; have := HAv.out; have := HA.out; omega
      · rw [← HN.out]; rfl
      · rw [← HN.out, ← map_sub_sub, ← List.drop_drop]
        exact HR2.out
    · have HB := Lib.hid hb
      have hen := fun w => eof_nil s w
      rw [map_sub_sub, List.drop_drop] at hrj
      have HRJ := Lib.hid hrj
      clear hb hrj
      go_wp2_with fail
      go_ret2
      refine   .inr ⟨.inr ?_, s, rfl, ⟨_, HRJ.out⟩, HBut.out.trans b2⟩
      rw [← HN.out]; have := HB.out; have := HAv.out; have := HA.out; omega
  · have hen := fun w => eof_nil s w
    have HRJ := Lib.hid hrj
    clear hrj
    go_wp2_with fail
    go_ret2
    exact .inr ⟨.inl ha, s, rfl, HRJ.out, ((But.refl w S).alloc (.cells #[.int .u32 0] 119)).weaken b1 (fun x hx => by
      rcases List.mem_cons.1 hx with e | e
      · exact .inr (by omega)
      · exact .inl e)⟩

end Go.Proofs.Ytkcdakohmfodjaa
