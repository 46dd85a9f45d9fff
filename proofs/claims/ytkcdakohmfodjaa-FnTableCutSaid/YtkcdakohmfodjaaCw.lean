/-
  FnTableCut: the walk of the statement's function.
-/
import Derived.Test.YtkcdakohmfodjaaRf
import Derived.Test.YtkcdakohmfodjaaTw
namespace Go.Proofs.Ytkcdakohmfodjaa
open Go.RowKit Go.Maps
attribute [local go_sem ↓] Go.wp_at_zero Go.wp_at_succ

theorem num_be4 (n : Nat) (h : n < 4294967296) : num (be n 4) = n := by
  simp only [num, be, List.foldl, toNat_ofNat8, Nat.shiftRight_eq_div_pow]
  omega

theorem tab_short {fs : Fs} {k : Nat} (hk : k < (tab fs).length) (he : fs.enc.length ≤ 20000) : Short [] ((tab fs).take k) := by
  have hl : (tab fs).length = 4 + fs.enc.length := by unfold tab; rw [List.length_append, be_len]
  have hlk : ((tab fs).take k).length = k := by rw [List.length_take]; omega
  have hn : 4 ≤ k → num (((tab fs).take k).take 4) = fs.enc.length := fun h4 => by
    rw [List.take_take, Nat.min_eq_left h4]
    unfold tab
    rw [List.take_append_of_le_length (by rw [be_len]; omega), List.take_of_length_le (by rw [be_len]; omega), num_be4 _ (by omega)]
  unfold Short
  rw [avail, hlk]
  refine ⟨?_, fun h => by rw [hn h]; omega⟩
  by_cases h4 : k < 4
  · exact .inl h4
  · right; rw [hn (by omega)]; omega

theorem Rb.take {w : World} {B k c n : Nat} {ad : Addr} {ys : List UInt8} (h : Rb w B (.slice (some ad) n c) ys) (hk : k ≤ ys.length) : Rb w B (.slice (some ad) k c) (ys.take k) := by
  obtain ⟨A, c', e, hc, hx⟩ := h
  injection e with e1 e2 e3
  subst e1 e2 e3
  refine ⟨_, _, by rw [List.length_take, Nat.min_eq_left hk], by rw [List.length_take]; omega, fun hn => ?_⟩
  rw [List.length_take] at hn
  obtain ⟨ad', ea, hb, hx⟩ := hx (by omega)
  refine ⟨ad', ea, hb, fun j u hu => hx j u ?_⟩
  have hj : j < k := by
    have := (List.getElem?_eq_some_iff.1 hu).1
    rw [bcells_length, List.length_take] at this
    omega
  rw [← hu]
  simp only [bcells, List.map_take, List.getElem?_take_of_lt hj]

theorem run_upto (w : World) (ad : Addr) (n c k : Nat) (hk : k ≤ n) (hn : n ≤ c) :
    (Instr.sliceAt 27 (.slice (some ad) n c) none (some (.int .i64 k)) none).run Try.prog w = .ok (.slice (some ad) k c) w := by
  simp [Instr.sliceAt, Instr.slice, go_sem, Instr.sliceBounds, Instr.sliceBound, run_underlying Try.underlying27, asIntOf]
  intros
  omega

theorem wpList_upto_run {P : Program} {w : World} {ops : Array Oper} {rest : List Oper} {o : Oper} {a : Act} {Q : Exit → Act → World → Prop} (hgd : o.guard = none) (t : TypeId) (x hi : Operand)
    (ho : o.op = Op.slice t x none (some hi) none) (xv hiv v : Value) (w' : World) (hx : a.eval x = xv) (hl : a.eval hi = hiv)
    (hrun : (Instr.sliceAt t xv none (some hiv) none).run P w = .ok v w') (h : wpList P ops Q rest (a.put o.dst v) w') : wpList P ops Q (o :: rest) a w := by
  refine wpList_plain hgd fun _ hK => ?_
  unfold Oper.wp execOp
  simp [ho, hx, hl, hrun, Result.andThen]
  exact hK _ _ h

set_option maxRecDepth 100000 in
set_option maxHeartbeats 4000000 in
/-- FnTableCut -/
theorem FnTableCut_any {fs : Fs} {A : Option Addr} {c : Nat} {xs : List Value} {p : Nat → Prop} {w : World} (z : Int) (hok : fs.ok) (hlen : fs.len ≤ 140737488355328) (hR : Rd w p A xs) (hF : FsC w p fs xs) (hc : fs.len ≤ c) (hp : ∀ g, p g → g < w.heap.size) :
    Calls Try.prog 5 #[.slice A fs.len c, .int .i64 z] w fun e w' => e = .returned (.bool true) ∧ Below w.heap.size w w' := by
  have Hok := Lib.hid hok
  have HP := Lib.hid hp
  have H1 := Lib.hid (table_any (fs := fs) (A := A) (c := c) (xs := xs) (p := p) (w := w) hok hlen hR hF hc hp)
  have HCok := Lib.hid (cut_okay hok hlen)
  clear hok hR hF hp
  by_cases hbig : fs.len ≤ 2147483647
  · go_enter Try.func5, Try.ntmps5
    go_wp2_with fail
    refine H1.out.mono ?_
    rintro e w1 ⟨A', c', ys, rfl, h1, h2, h3, hb1⟩
    have H2 := Lib.hid (Fits_any _ A' c' ys (New w w1) w1 HCok.out.1 HCok.out.2 h1 h2 h3 (fun g hg => hg.2))
    have HR1 := Lib.hid h1
    have HF1 := Lib.hid h2
    clear h1 h2
    go_wp2_with fail
    refine H2.out.mono ?_
    rintro e w2 ⟨b, rfl, hb2, hfit⟩
    have hb12 := hb1.trans (hb2.mono hb1.size)
    cases b
    · clear hfit
      go_wp2_with fail
      refine (works_any w2).mono ?_
      rintro e w3 ⟨rfl, hb3⟩
      go_wp2
      go_ret
      exact ⟨rfl, hb12.trans (hb3.mono hb12.size)⟩
    · obtain ⟨r', hr⟩ := hfit rfl
      obtain ⟨f1, f2, f3, f4⟩ := cut_fits hr
      have hsz1 := hb2.size
      have hsz := hb12.size
      have H4 := Lib.hid (TableBytes_any (fs.cut 10 4000) none A' c' ys (New w w1) w2 f4 HCok.out.1 HCok.out.2 (HR1.out.keep (fun g hg => hb2.block g hg.2)) (HF1.out.keep (fun g hg => hb2.block g hg.2)) h3 (fun g hg => by have := hg.2; omega) (by rw [← f2]; omega))
      have HE : fs.enc.length ≤ 20000 := f3
      have htab : tab (fs.cut 10 4000) = tab fs := by unfold tab; rw [f2]
      have HT := Lib.hid htab
      clear hr f1 f2 f3 f4 hfit htab
      go_wp2_with fail
      refine H4.out.mono ?_
      rintro e w3 ⟨sv, rfl, ho3, hb3⟩
      rw [HT.out] at ho3
      have hb13 := hb12.trans (hb3.mono hb12.size)
      have hw := works_any w3
      have HW := Lib.hid hw
      have hsz3 := hb3.size
      rcases ho3.2 with ⟨_, h0⟩ | ⟨g, cap, cur, rfl, _, hg, hcap, _⟩
      · unfold tab at h0; rw [List.length_append, be_len] at h0; omega
      have hrb : Rb w3 w3.heap.size _ (tab fs) := ho3.rb
      have HRb := Lib.hid hrb
      obtain ⟨L, hL⟩ : ∃ L, L = (tab fs).length := ⟨_, rfl⟩
      rw [← hL] at hcap HRb ⊢
      have HL := Lib.hid hL
      clear hw ho3 hg hrb hL
      by_cases hz0 : z < 0
      · go_wp2_with fail
        refine HW.out.mono ?_
        rintro e w4 ⟨rfl, hb4⟩
        go_wp2
        go_ret
        exact ⟨rfl, hb13.trans (hb4.mono hb13.size)⟩
      · by_cases hz1 : (L : Int) ≤ z
        · go_wp2_with fail
          refine HW.out.mono ?_
          rintro e w4 ⟨rfl, hb4⟩
          go_wp2
          go_ret
          exact ⟨rfl, hb13.trans (hb4.mono hb13.size)⟩
        · obtain ⟨k, rfl⟩ : ∃ k : Nat, z = k := ⟨z.toNat, by omega⟩
          have hkL : k < L := by omega
          have hsl := run_upto w3 ⟨g, 0, none⟩ L cap k (by omega) hcap
          have hrk : Rb w3 w3.heap.size (.slice (some ⟨g, 0, none⟩) k cap) ((tab fs).take k) := HRb.out.take (by rw [← HL.out]; omega)
          have htl : (tab fs).length = 4 + fs.enc.length := by unfold tab; rw [List.length_append, be_len]
          have hkl : ((tab fs).take k).length ≤ 1000000000 := by rw [List.length_take]; omega
          have hpt := ParseTable_err hrk (Nat.le_refl _) hkl (tab_short (by rw [← HL.out]; exact hkL) HE)
          clear htl hkl
          have HSl := Lib.hid hsl
          have HPT := Lib.hid hpt
          clear hsl hrk hpt
          go_wp2_with (refine wpList_upto_run rfl 27 (.tmp 31) (.tmp 32) rfl _ _ _ w3 rfl rfl HSl.out ?_)
          refine HPT.out.mono ?_
          rintro e w4 ⟨rfl, hb4⟩
          have hb14 := hb13.trans (hb4.mono hb13.size)
          go_wp2_with fail
          refine (works_any w4).mono ?_
          rintro e w5 ⟨rfl, hb5⟩
          go_wp2
          go_ret
          exact ⟨rfl, hb14.trans (hb5.mono hb14.size)⟩
  · have hbig' : 2147483647 < fs.len := by omega
    go_enter Try.func5, Try.ntmps5
    go_wp2
    go_ret
    exact ⟨rfl, Below.refl _ _⟩

end Go.Proofs.Ytkcdakohmfodjaa
