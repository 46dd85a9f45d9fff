/-
  Readers: Read under limits; readFull.
-/
import Derived.Test.YtkcdakohmfodjaaRa
import Derived.Deep.RegionWith
namespace Go.Proofs.Ytkcdakohmfodjaa
open Go.RowKit
attribute [local go_sem ↓] Go.wp_at_zero Go.wp_at_succ

theorem sub_wrap (n k : Nat) (h : k ≤ n) (hn : n ≤ 4294967296) : IntKind.i64.wrap ((n : Int) - (k : Int)) = ((n - k : Nat) : Int) := by
  simp only [IntKind.wrap, IntKind.bits, IntKind.signed]
  simp
  omega

/-- every limit is one that a number of four bytes says -/
def Small (ns : List Nat) : Prop := ∀ n ∈ ns, n ≤ 4294967296

set_option maxRecDepth 100000 in
set_option maxHeartbeats 4000000 in
theorem limRead {G : TypeId} {w : World} {B lb n : Nat} {r' : Value} {ns : List Nat} {ys : List UInt8} {S' : List Nat} {R : Option Nat} {g o m c : Nat} {cs : Array Value} (hk : Blk w lb 222 #[r', .int .i64 n]) (hr : Rr w B r' ns ys S' R) (hl : lb ∉ S') (hR : R ≠ some lb) (hlb : lb < B) (hn : n ≤ 4294967296)
    (hg : Blk w g G cs) (hgB : B ≤ g) (hm : 0 < m) (hmc : m ≤ c) (_hfit : o + m ≤ cs.size)
    (ih : ∀ m', 0 < m' → m' ≤ m → CanRead w r' (.slice (some ⟨g, o, none⟩) m' c) (ReadPost G w B r' ns ys S' R g o m' cs)) :
    Calls Try.prog 148 #[.pointer (some ⟨lb, 0, none⟩), .slice (some ⟨g, o, none⟩) m c] w (ReadPost G w B (.iface 220 (.pointer (some ⟨lb, 0, none⟩))) (n :: ns) ys (lb :: S') R g o m cs) := by
  have c0 : w.cell? ⟨lb, 0, none⟩ = some r' := by rw [hk.cell]; rfl
  have c1 : w.cell? ⟨lb, 1, none⟩ = some (.int .i64 n) := by rw [hk.cell]; rfl
  have fz := fun i => hk.frozen i
  have hlg : lb ≠ g := by omega
  rcases Nat.eq_zero_or_pos n with h0 | hpos
  · subst h0
    have HR : Hid (Rr w B (.iface 220 (.pointer (some ⟨lb, 0, none⟩))) (0 :: ns) ys (lb :: S') R) := Lib.hid ⟨lb, r', S', rfl, hk, hr, hl, hR, hlb, rfl⟩
    clear ih hr hl hR
    go_enter Try.func148, Try.ntmps148
    go_wp2_with fail
    go_ret2
    exact .inl ⟨by rw [avail]; omega, rfl, hg, HR.out, But.refl _ _, rfl⟩
  · obtain ⟨m', hm'⟩ : ∃ m', m' = min m n := ⟨_, rfl⟩
    obtain ⟨T, a, kf, rfl, hmeth, hnil, hent, hcall⟩ := ih m' (by omega) (by omega)
    have HC := Lib.hid hcall
    have HM := Lib.hid hm'
    have HR := Lib.hid hr
    have HL := Lib.hid hl
    have HNR := Lib.hid hR
    have hmm : m' ≤ m ∧ m' ≤ n := by omega
    clear ih hcall hr hl hR
    have hc' : 0 < c := by omega
    by_cases hbig : n < m
    · have hmn : n = m' := by omega
      subst hmn
      have hnc : (n : Int) ≤ (c : Int) := by omega
      have hcne : ¬ (c = 0) := by omega
      clear hm'
      go_enter Try.func148, Try.ntmps148
      go_wp2_with fail
      refine HC.out.mono ?_
      rintro e w1 (⟨ha, rfl, hg1, hr1, hb1, hs1⟩ | ⟨ha, k, hkd, rfl, hg1, hr1, hb1, hs1⟩)
      · have k1 := hb1.blk hk HL.out
        have d1 : w1.cell? ⟨lb, 1, none⟩ = some (.int .i64 n) := by rw [k1.cell]; rfl
        have fz1 := fun i => k1.frozen i
        have hn0 : (0 : Int) ≤ (n : Int) := by omega
        have Hs1 := Lib.hid hs1
        have Ha := Lib.hid ha
        have HR1 := Lib.hid hr1
        clear hs1 ha hr1 c0 c1 fz
        go_wp2_with fail
        go_ret2
        refine .inl ⟨by rw [avail, Ha.out]; omega, rfl, hg1.far (fun e => hlg e.symm) _, ?_, ?_, ?_⟩
        · refine ⟨lb, _, S', rfl, ?_, HR1.out.keep (fun x hx => Below.heap_setCell _ _ _ _ (fun e => by subst e; exact HL.out hx)) (fun x hx => Below.heap_setCell _ _ _ _ (fun e => HNR.out (by rw [hx, e]))), HL.out, HNR.out, hlb, rfl⟩
          have := k1.set_ 1 (.int .i64 n)
          simpa using this
        · exact (hb1.more (fun x hx => List.mem_cons_of_mem _ hx)).setCell (.inl (by simp)) _
        · have := Hs1.out; simpa [World.setCell] using this
      · have k1 := hb1.blk hk (by
          intro hm
          rcases List.mem_cons.1 hm with e | e
          · exact hlg e
          · exact HL.out e)
        have d1 : w1.cell? ⟨lb, 1, none⟩ = some (.int .i64 n) := by rw [k1.cell]; rfl
        have fz1 := fun i => k1.frozen i
        have hkn : k ≤ n := by omega
        have hsw := sub_wrap n k hkn hn
        have Hs1 := Lib.hid hs1
        have Hkd := Lib.hid hkd
        have HR1 := Lib.hid hr1
        clear hs1 hkd hr1 c0 c1 fz
        go_wp2_with fail
        go_ret2
        refine .inr ⟨by rw [avail]; omega, k, by rw [avail, Hkd.out]; have := HM.out; omega, rfl, hg1.far (fun e => hlg e.symm) _, ?_, ?_, ?_⟩
        · refine ⟨lb, _, S', rfl, ?_, HR1.out.keep (fun x hx => Below.heap_setCell _ _ _ _ (fun e => by subst e; exact HL.out hx)) (fun x hx => Below.heap_setCell _ _ _ _ (fun e => HNR.out (by rw [hx, e]))), HL.out, HNR.out, hlb, rfl⟩
          have := k1.set_ 1 (.int .i64 ((n - k : Nat) : Int))
          simpa using this
        · exact (hb1.more (S' := g :: lb :: S') (fun x hx => by
            rcases List.mem_cons.1 hx with e | e
            · simp [e]
            · simp [e])).setCell (.inl (by simp)) _
        · have := Hs1.out; simpa [World.setCell] using this
    · have hmn : m = m' := by omega
      subst hmn
      clear hm'
      go_enter Try.func148, Try.ntmps148
      go_wp2_with fail
      refine HC.out.mono ?_
      rintro e w1 (⟨ha, rfl, hg1, hr1, hb1, hs1⟩ | ⟨ha, k, hkd, rfl, hg1, hr1, hb1, hs1⟩)
      · have k1 := hb1.blk hk HL.out
        have d1 : w1.cell? ⟨lb, 1, none⟩ = some (.int .i64 n) := by rw [k1.cell]; rfl
        have fz1 := fun i => k1.frozen i
        have hn0 : (0 : Int) ≤ (n : Int) := by omega
        have Hs1 := Lib.hid hs1
        have Ha := Lib.hid ha
        have HR1 := Lib.hid hr1
        clear hs1 ha hr1 c0 c1 fz
        go_wp2_with fail
        go_ret2
        refine .inl ⟨by rw [avail, Ha.out]; omega, rfl, hg1.far (fun e => hlg e.symm) _, ?_, ?_, ?_⟩
        · refine ⟨lb, _, S', rfl, ?_, HR1.out.keep (fun x hx => Below.heap_setCell _ _ _ _ (fun e => by subst e; exact HL.out hx)) (fun x hx => Below.heap_setCell _ _ _ _ (fun e => HNR.out (by rw [hx, e]))), HL.out, HNR.out, hlb, rfl⟩
          have := k1.set_ 1 (.int .i64 n)
          simpa using this
        · exact (hb1.more (fun x hx => List.mem_cons_of_mem _ hx)).setCell (.inl (by simp)) _
        · have := Hs1.out; simpa [World.setCell] using this
      · have k1 := hb1.blk hk (by
          intro hm
          rcases List.mem_cons.1 hm with e | e
          · exact hlg e
          · exact HL.out e)
        have d1 : w1.cell? ⟨lb, 1, none⟩ = some (.int .i64 n) := by rw [k1.cell]; rfl
        have fz1 := fun i => k1.frozen i
        have hkn : k ≤ n := by omega
        have hsw := sub_wrap n k hkn hn
        have Hs1 := Lib.hid hs1
        have Hkd := Lib.hid hkd
        have HR1 := Lib.hid hr1
        clear hs1 hkd hr1 c0 c1 fz
        go_wp2_with fail
        go_ret2
        refine .inr ⟨by rw [avail]; omega, k, by rw [avail, Hkd.out]; have := HM.out; omega, rfl, hg1.far (fun e => hlg e.symm) _, ?_, ?_, ?_⟩
        · refine ⟨lb, _, S', rfl, ?_, HR1.out.keep (fun x hx => Below.heap_setCell _ _ _ _ (fun e => by subst e; exact HL.out hx)) (fun x hx => Below.heap_setCell _ _ _ _ (fun e => HNR.out (by rw [hx, e]))), HL.out, HNR.out, hlb, rfl⟩
          have := k1.set_ 1 (.int .i64 ((n - k : Nat) : Int))
          simpa using this
        · exact (hb1.more (S' := g :: lb :: S') (fun x hx => by
            rcases List.mem_cons.1 hx with e | e
            · simp [e]
            · simp [e])).setCell (.inl (by simp)) _
        · have := Hs1.out; simpa [World.setCell] using this

/-- every reader can be read from -/
theorem can_read {G : TypeId} : ∀ (ns : List Nat) {w : World} {B : Nat} {r : Value} {ys : List UInt8} {S : List Nat} {R : Option Nat} {g o m c : Nat} {cs : Array Value}, Rr w B r ns ys S R → Small ns → Blk w g G cs → B ≤ g → 0 < m → m ≤ c → o + m ≤ cs.size → ys.length ≤ 1000000000 →
    CanRead w r (.slice (some ⟨g, o, none⟩) m c) (ReadPost G w B r ns ys S R g o m cs)
  | [], w, B, r, ys, S, R, g, o, m, c, cs, h, hs, hg, hgB, hm, hmc, hfit, hys => by
    obtain ⟨bb, sv, rfl, hk, hrb, hown, hne, hbb, rfl⟩ := h
    exact ⟨99, _, 139, rfl, meth_read99 _, nil_read99 _, enter139 _ _, bufRead hk hrb hown hne hbb hg hgB hm hfit hys⟩
  | n :: ns, w, B, r, ys, S, R, g, o, m, c, cs, h, hs, hg, hgB, hm, hmc, hfit, hys => by
    obtain ⟨lb, r', S', rfl, hk, hr, hl, hR, hlb, rfl⟩ := h
    refine ⟨220, _, 148, rfl, meth_read220 _, nil_read220 _, enter148 _ _, limRead hk hr hl hR hlb (hs n (by simp)) hg hgB hm hmc hfit fun m' h1 h2 => ?_⟩
    exact can_read ns hr (fun x hx => hs x (List.mem_cons_of_mem _ hx)) hg hgB h1 (by omega) (by omega) hys

theorem Small.sub {ns : List Nat} (h : Small ns) (k : Nat) : Small (ns.map (· - k)) := by
  intro x hx
  obtain ⟨y, hy, rfl⟩ := List.mem_map.1 hx
  have := h y hy
  omega

theorem map_sub_sub (ns : List Nat) (j k : Nat) : (ns.map (· - j)).map (· - k) = ns.map (· - (j + k)) := by
  rw [List.map_map]
  apply List.map_congr_left
  intro x _
  simp only [Function.comp]
  omega

theorem spl_spl (cs : Array Value) (o : Nat) (xs ys : List UInt8) (h : o + xs.length + ys.length ≤ cs.size) : spl (spl cs o xs) (o + xs.length) ys = spl cs o (xs ++ ys) := by
  unfold spl
  apply Array.toList_inj.1
  simp only [bcells_append, bcells_length, List.length_append]
  have h1 : (cs.toList.take o).length = o := by rw [List.length_take, Array.length_toList]; omega
  have h2 : (bcells xs).length = xs.length := bcells_length xs
  have e1 : (cs.toList.take o ++ (bcells xs ++ cs.toList.drop (o + xs.length))).take (o + xs.length) = cs.toList.take o ++ bcells xs := by
    rw [← List.append_assoc, List.take_append_of_le_length (by rw [List.length_append, h1, h2]; omega), List.take_of_length_le (by rw [List.length_append, h1, h2]; omega)]
  have e2 : (cs.toList.take o ++ (bcells xs ++ cs.toList.drop (o + xs.length))).drop (o + xs.length + ys.length) = cs.toList.drop (o + (xs.length + ys.length)) := by
    rw [← List.append_assoc, List.drop_append, List.drop_of_length_le (by rw [List.length_append, h1, h2]; omega), List.length_append, h1, h2, List.nil_append, List.drop_drop]
    congr 1
    omega
  rw [e1, e2]
  simp
theorem spl_size (cs : Array Value) (o : Nat) (xs : List UInt8) (h : o + xs.length ≤ cs.size) : (spl cs o xs).size = cs.size := by
  unfold spl
  simp only [List.size_toArray, List.length_append, List.length_take, List.length_drop, Array.length_toList, bcells_length]
  omega
theorem spl_nil (cs : Array Value) (o : Nat) : spl cs o [] = cs := by
  unfold spl
  apply Array.toList_inj.1
  simp [bcells]

/-- what readFull comes to: all that was asked, or an end -/
def FullPost (G : TypeId) (w : World) (B : Nat) (r : Value) (ns : List Nat) (ys : List UInt8) (S : List Nat) (R : Option Nat) (g o m : Nat) (cs : Array Value) (e : Ending) (w' : World) : Prop :=
  (m ≤ avail ns ys ∧ e = .returned (.tuple #[.int .i64 m, .nilIface]) ∧ Blk w' g G (spl cs o (ys.take m)) ∧ Rr w' B r (ns.map (· - m)) (ys.drop m) S R ∧ But w w' (g :: S)) ∨
  (avail ns ys < m ∧ ∃ (k : Nat) (s : ByteArray), e = .returned (.tuple #[.int .i64 k, .iface 179 (.string s)]) ∧ (avail ns ys = 0 → s = ⟨#[69, 79, 70]⟩ ∧ Rr w' B r ns ys S R) ∧ (∃ j, Rr w' B r (ns.map (· - j)) (ys.drop j) S R) ∧ But w w' (g :: S))

theorem eof_eof (w : World) : (binOp .eql 57 eofV (.iface 179 (.string ⟨#[69, 79, 70]⟩))).run Try.prog w = .ok (.bool true) w := by kernel_rfl

theorem Rr.shape : ∀ {ns : List Nat} {w : World} {B : Nat} {r : Value} {ys : List UInt8} {S : List Nat} {R : Option Nat}, Rr w B r ns ys S R → ∃ T a, r = .iface T (.pointer (some a))
  | [], w, B, r, ys, S, R, h => by obtain ⟨bb, sv, rfl, _⟩ := h; exact ⟨_, _, rfl⟩
  | n :: ns, w, B, r, ys, S, R, h => by obtain ⟨lb, r', S', rfl, _⟩ := h; exact ⟨_, _, rfl⟩

theorem readpost_eof {G : TypeId} {w : World} {B : Nat} {r : Value} {ns : List Nat} {ys : List UInt8} {S : List Nat} {R : Option Nat} {g o m : Nat} {cs : Array Value} {e : Ending} {w' : World} (h : ReadPost G w B r ns ys S R g o m cs e w') (hz : avail ns ys = 0) :
    e = .returned (.tuple #[.int .i64 0, eofV]) ∧ Blk w' g G cs ∧ Rr w' B r ns ys S R ∧ But w w' S := by
  rcases h with ⟨_, h1, h2, h3, h4, _⟩ | ⟨h, _⟩
  · exact ⟨h1, h2, h3, h4⟩
  · omega
theorem readpost_some {G : TypeId} {w : World} {B : Nat} {r : Value} {ns : List Nat} {ys : List UInt8} {S : List Nat} {R : Option Nat} {g o m : Nat} {cs : Array Value} {e : Ending} {w' : World} (h : ReadPost G w B r ns ys S R g o m cs e w') (hz : 0 < avail ns ys) :
    ∃ k, k = min m (avail ns ys) ∧ e = .returned (.tuple #[.int .i64 k, .nilIface]) ∧ Blk w' g G (spl cs o (ys.take k)) ∧ Rr w' B r (ns.map (· - k)) (ys.drop k) S R ∧ But w w' (g :: S) := by
  rcases h with ⟨h, _⟩ | ⟨_, k, h1, h2, h3, h4, h5, _⟩
  · omega
  · exact ⟨k, h1, h2, h3, h4, h5⟩

set_option maxRecDepth 100000 in
set_option maxHeartbeats 4000000 in
/-- readFull -/
theorem readFull_any {G : TypeId} {w : World} {B : Nat} {r : Value} {ns : List Nat} {ys : List UInt8} {S : List Nat} {R : Option Nat} {g o m c : Nat} {cs : Array Value} (h : Rr w B r ns ys S R) (hs : Small ns) (hg : Blk w g G cs) (hgB : B ≤ g) (hmc : m ≤ c) (_hc : m ≤ 1099511627776) (hfit : o + m ≤ cs.size) (hys : ys.length ≤ 1000000000) :
    Calls Try.prog 89 #[r, .slice (some ⟨g, o, none⟩) m c] w (FullPost G w B r ns ys S R g o m cs) := by
  obtain ⟨T0, a0, hr0⟩ := h.shape
  subst hr0
  have H := Lib.hid h
  have HS := Lib.hid hs
  have HG := Lib.hid hg
  clear h hs hg
  go_enter Try.func89, Try.ntmps89
  go_wp2_with fail
  go_loopw [4, 5] (fun i er wr => ∃ (j : Nat) (b : Bool), i = .int .i64 j ∧ er = (if b = true then eofV else .nilIface) ∧ j ≤ m ∧ j ≤ avail ns ys ∧ (b = true → avail ns ys = j ∧ j < m) ∧
      Blk wr g G (spl cs o (ys.take j)) ∧ Rr wr B (.iface T0 (.pointer (some a0))) (ns.map (· - j)) (ys.drop j) S R ∧ But w wr (g :: S)) (fun i er _ => match er with | .nilIface => m - (intOf i).toNat + 1 | _ => 0)
  case atStart => exact ⟨0, false, rfl, rfl, Nat.zero_le _, Nat.zero_le _, (fun h => by cases h), by rw [List.take_zero, spl_nil]; exact HG.out, by simpa using H.out, But.refl _ _⟩
  case round =>
    obtain ⟨j, b, rfl, rfl, hj, hja, hb, hgr, hrr, hbut⟩ := hrel
    have hjl : j ≤ ys.length := by have := avail_le ns ys; omega
    cases b
    · clear hb
      rcases Nat.eq_or_lt_of_le hj with hjm | hjm
      · have HJ := Lib.hid hjm
        have hge : ¬ ((j : Int) < (m : Int)) := by omega
        have hge2 : ((m : Int) ≤ (j : Int)) := by omega
        have HGr := Lib.hid hgr
        have HRr := Lib.hid hrr
        clear hjm hgr hrr
        go_wp2_with fail
        go_ret2
        have := HJ.out
        subst this
        exact .inl ⟨hja, rfl, HGr.out, HRr.out, hbut⟩
      · have hcj : ¬ (c = j) := by omega
        have hcj2 : j < c := by omega
        have hj1 : (j : Int) ≤ (m : Int) := by omega
        have hav : avail (ns.map (· - j)) (ys.drop j) = avail ns ys - j := avail_drop ns ys j
        have hl1 : (ys.take j).length = j := by rw [List.length_take]; omega
        have hsz := spl_size cs o (ys.take j) (by omega)
        obtain ⟨T, a, kf, he, hmeth, hnil, hent, hcall⟩ := can_read (ns.map (· - j)) (w := wr.drew) (g := g) (o := o + j) (m := m - j) (c := c - j) (Rr.keep hrr (fun _ _ => rfl) (fun _ _ => rfl)) (HS.out.sub j) hgr.drew hgB (by omega) (by omega) (by omega) (by rw [List.length_drop]; omega)
        injection he with he1 he2
        injection he2 with he2
        injection he2 with he2
        subst he1 he2
        have HCall := Lib.hid hcall
        have Hav := Lib.hid hav
        have Hsz := Lib.hid hsz
        have Hl1 := Lib.hid hl1
        have HGr := Lib.hid hgr
        have HRr := Lib.hid hrr
        clear hcall hav hsz hl1 hgr hrr
        by_cases hz : avail ns ys = j
        · have hz2 : avail (ns.map (· - j)) (ys.drop j) = 0 := by rw [Hav.out]; omega
          have HZ := Lib.hid hz
          have HZ2 := Lib.hid hz2
          clear hz hz2
          go_wp2_with fail
          go_region_with (refine HCall.out.mono ?_; rintro e w1 hp; obtain ⟨rfl, q1, q2, q3⟩ := readpost_eof hp HZ2.out)
          all_goals
            go_wp2_with fail
            refine ⟨⟨j, true, rfl, rfl, hj, hja, (fun _ => ⟨HZ.out, hjm⟩), q1, q2, hbut.trans ((But.refl wr _).drew.trans (q3.more (fun x hx => List.mem_cons_of_mem _ hx)))⟩, ?_⟩
            show 0 < m - (intOf (.int .i64 j)).toNat + 1
            omega
        · have hz2 : 0 < avail (ns.map (· - j)) (ys.drop j) := by rw [Hav.out]; omega
          have HZ2 := Lib.hid hz2
          clear hz hz2
          go_wp2_with fail
          go_region_with (refine HCall.out.mono ?_; rintro e w1 hp; obtain ⟨k, hk, rfl, q1, q2, q3⟩ := readpost_some hp HZ2.out; have Hk := Lib.hid hk; clear hk)
          all_goals
            have hk1 : 0 < k ∧ j + k ≤ m ∧ j + k ≤ avail ns ys := by
              have h1 := Hk.out
              have h2 := Hav.out
              have h3 := HZ2.out
              omega
            have hjk1 : (j : Int) + (k : Int) ≤ 1099511627776 := by omega
            go_wp2_with fail
            refine ⟨⟨j + k, false, by go_num, rfl, hk1.2.1, hk1.2.2, (fun h => by cases h), ?_, ?_, hbut.trans ((But.refl wr _).drew.trans q3)⟩, ?_⟩
            · have := spl_spl cs o (ys.take j) ((ys.drop j).take k) (by
                rw [Hl1.out, List.length_take, List.length_drop]
                omega)
              rw [Hl1.out, ← List.take_add] at this
              rw [← this]
              exact q1
            · rw [← map_sub_sub, ← List.drop_drop]
              exact q2
            · show m - (intOf (.int .i64 ((j : Int) + (k : Int)))).toNat + 1 < m - (intOf (.int .i64 j)).toNat + 1
              simp [intOf]
              omega
    · obtain ⟨hz, hjm⟩ := hb rfl
      have HZ := Lib.hid hz
      have HGr := Lib.hid hgr
      have HRr := Lib.hid hrr
      have heq := fun w => eof_eof w
      clear hz hb hgr hrr
      have hlt : (j : Int) < (m : Int) := by omega
      rcases Nat.eq_zero_or_pos j with h0 | hpos
      · subst h0
        go_wp2_with fail
        go_ret2
        refine .inr ⟨by rw [HZ.out]; exact hjm, 0, _, rfl, fun _ => ⟨rfl, ?_⟩, ⟨0, HRr.out⟩, hbut⟩
        have := HRr.out
        simpa using this
      · have hp1 : (0 : Int) < (j : Int) := by omega
        go_wp2_with fail
        go_ret2
        exact .inr ⟨by rw [HZ.out]; exact hjm, j, _, rfl, fun h => by rw [HZ.out] at h; omega, ⟨j, HRr.out⟩, hbut⟩

end Go.Proofs.Ytkcdakohmfodjaa
