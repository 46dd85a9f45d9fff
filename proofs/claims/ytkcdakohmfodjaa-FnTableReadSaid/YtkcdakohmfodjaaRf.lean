/-
  FnTableCut: a table that is cut short: the way of the error up to ParseTable.
-/
import Derived.Test.YtkcdakohmfodjaaRe
namespace Go.Proofs.Ytkcdakohmfodjaa
open Go.RowKit
attribute [local go_sem ↓] Go.wp_at_zero Go.wp_at_succ

/-- too little is left for a table -/
def Short (ns : List Nat) (ys : List UInt8) : Prop := (avail ns ys < 4 ∨ avail ns ys < 4 + num (ys.take 4)) ∧ (4 ≤ avail ns ys → num (ys.take 4) ≤ 2147483647)

def TErr (w : World) (B : Nat) (r : Value) (ns : List Nat) (ys : List UInt8) (S : List Nat) (R : Option Nat) (e : Ending) (w' : World) : Prop :=
  ∃ s : ByteArray, e = .returned (.tuple #[.map none, .iface 179 (.string s)]) ∧ (∃ j, Rr w' B r (ns.map (· - j)) (ys.drop j) S R) ∧ But w w' S

set_option maxRecDepth 100000 in
set_option maxHeartbeats 4000000 in
/-- readTableDepth, where too little is left -/
theorem tableDepth_err {w : World} {B : Nat} {r : Value} {ns : List Nat} {ys : List UInt8} {S : List Nat} {R : Option Nat} (h : Rr w B r ns ys S R) (hs : Small ns) (hys : ys.length ≤ 1000000000) (hRl : ∀ x, R = some x → x < w.heap.size) (hB : B ≤ w.heap.size) (hsh : Short ns ys) (d : Nat) (hd : d ≤ 32) :
    Calls Try.prog 57 #[r, .int .i64 d] w (TErr w B r ns ys S R) := by
  obtain ⟨T0, a0, hr0⟩ := h.shape
  subst hr0
  have hlong := readLong_any (h.alloc hB (.cells #[.slice none 0 0] 101) hRl) hs hys (fun x hx => by have := hRl x hx; simp; omega) (by simp; omega) hsh.2
  have HL := Lib.hid hlong
  have HSh := Lib.hid hsh
  have hd' : ¬ (32 < (d : Int)) := by omega
  clear hlong hsh h
  go_enter Try.func57, Try.ntmps57
  go_wp2_with fail
  refine HL.out.mono ?_
  rintro e w1 hp
  have hp' : ∃ s : ByteArray, e = .returned (.tuple #[.string ⟨#[]⟩, .iface 179 (.string s)]) ∧ (∃ j, Rr w1 B (.iface T0 (.pointer (some a0))) (ns.map (· - j)) (ys.drop j) S R) ∧ But (w.alloc (.cells #[.slice none 0 0] 101)) w1 S := by
    rcases hp with ⟨h1, h2, _⟩ | ⟨_, h⟩
    · have := HSh.out.1; omega
    · exact h
  obtain ⟨s, rfl, hrj, hb⟩ := hp'
  have hen := fun w => eof_nil s w
  have HR := Lib.hid hrj
  clear hp hrj
  go_wp2_with fail
  go_ret2
  exact ⟨s, rfl, HR.out, ((But.refl w S).alloc _).trans hb⟩

/-- readTable, where too little is left -/
theorem readTable_err {w : World} {B : Nat} {r : Value} {ns : List Nat} {ys : List UInt8} {S : List Nat} {R : Option Nat} (h : Rr w B r ns ys S R) (hs : Small ns) (hys : ys.length ≤ 1000000000) (hRl : ∀ x, R = some x → x < w.heap.size) (hB : B ≤ w.heap.size) (hsh : Short ns ys) :
    Calls Try.prog 41 #[r] w (TErr w B r ns ys S R) := by
  have H := Lib.hid (tableDepth_err h hs hys hRl hB hsh 0 (by omega))
  obtain ⟨T0, a0, hr0⟩ := h.shape
  subst hr0
  clear h
  go_enter Try.func41, Try.ntmps41
  go_wp2_with fail
  refine H.out.mono ?_
  rintro e w1 ⟨s, rfl, hrj, hb⟩
  have HR := Lib.hid hrj
  clear hrj
  go_wp2_with fail
  go_ret2
  exact ⟨s, rfl, HR.out, hb⟩

/-- (*Buffer).Len -/
theorem len_rb {B bb : Nat} {sv : Value} {xs : List UInt8} {w : World} (hk : Blk w bb 101 #[sv]) (hb : Rb w B sv xs) :
    Calls Try.prog 42 #[.pointer (some ⟨bb, 0, none⟩)] w fun e w' => e = .returned (.int .i64 xs.length) ∧ w = w' := by
  have hc := hk.cell0
  have hf := hk.frozen 0
  obtain ⟨A, c, rfl, _⟩ := hb
  go_enter Try.func42, Try.ntmps42
  go_wp2
  go_ret
  exact ⟨rfl, rfl⟩

set_option maxRecDepth 100000 in
set_option maxHeartbeats 4000000 in
/-- ZZReadTable, where too little is there -/
theorem ZZRead_err {w : World} {B : Nat} {x : Value} {ys : List UInt8} (hx : Rb w B x ys) (hys : ys.length ≤ 1000000000) (hsh : Short [] ys) :
    Calls Try.prog 28 #[x] w fun e w' => ∃ (n : Nat) (s : ByteArray), e = .returned (.tuple #[.map none, .int .i64 n, .iface 179 (.string s)]) ∧ Below w.heap.size w w' := by
  obtain ⟨i0, hi, hz0, hz1, hz2⟩ := info_parts info5
  have hsrc := hx.src (P := Try.prog) Try.underlying27
  obtain ⟨A, c, hpv, _⟩ := hx
  subst hpv
  have HSh := Lib.hid hsh
  clear hsh
  go_enter Try.func28, Try.ntmps28
  go_wp2_with (at_builtin; refine wpList_append_src _ rfl (.const (.slice none 0 0)) (.tmp 6) 27 27 rfl w.heap.size 5 i0 (.int .u8 0) 1 1 Try.underlying27 hi hz0 hz1 hz2 rfl (.slice none 0 0) 0 [] rfl (World.ownsRow_nil _ _ _ _) _ ys.length (bcells ys) rfl hsrc (by unfold maxLen; omega) (by omega) (Nat.le_refl _) ?_)
  intro sv w1 hown hg hat
  have hown' : Own w1 w.heap.size sv ys := by simpa [Own] using hown
  obtain ⟨A', c', rfl⟩ := own_shape hown'
  have hrow := hown'.row
  have hb1 : Below w.heap.size w w1 := (Below.refl _ _).grown hg (Nat.le_refl _) (fun j hj => by cases hj)
  have hk := Blk.new w1 101 #[.slice A' ys.length c']
  have hRr : Rr (w1.alloc (.cells #[.slice A' ys.length c'] 101)) (w1.heap.size + 1) (.iface 99 (.pointer (some ⟨w1.heap.size, 0, none⟩))) [] ys [w1.heap.size] (Value.ownBlock (.slice A' ys.length c')) :=
    ⟨w1.heap.size, _, rfl, hk, (hown'.alloc _).rb.more (by simp), rfl, fun e => by have := (hrow _ e).2; omega, by omega, rfl⟩
  have H := Lib.hid (readTable_err hRr (fun _ h => by cases h) hys (fun x hx => by have := (hrow x hx).2; simp; omega) (by simp) HSh.out)
  have Hb1 := Lib.hid hb1
  clear hRr hown hg hat hown' hrow hb1 hsrc
  go_wp2_with fail
  refine H.out.mono ?_
  rintro e w2 ⟨s, rfl, ⟨j, hrj⟩, hb2⟩
  obtain ⟨bb, sv, he, k2, rb2, _, _, _, _⟩ := hrj
  injection he with _ he
  injection he with he
  injection he with he
  injection he with he
  subst he
  have HL := Lib.hid (len_rb k2 rb2)
  have Hb2 := Lib.hid (Hb1.out.trans (((Below.refl _ _).alloc Hb1.out.size _).trans (hb2.below (B := w.heap.size) (by intro k hk; have := Hb1.out.size; simp at hk; omega) (by have := Hb1.out.size; simp; omega))))
  clear k2 rb2 hb2
  go_wp2_with fail
  refine HL.out.mono ?_
  rintro e w3 ⟨rfl, rfl⟩
  go_wp2_with fail
  go_ret3
  exact ⟨_, s, rfl, Hb2.out⟩

theorem err_nil (s : ByteArray) (w : World) : (binOp .eql 57 (.iface 179 (.string s)) .nilIface).run Try.prog w = .ok (.bool false) w := by kernel_rfl

set_option maxRecDepth 100000 in
set_option maxHeartbeats 1000000 in
/-- ParseTable's inner function, where too little is there -/
theorem parseT1_err {pd pf po pr B : Nat} {x : Value} {ys : List UInt8} {w : World} (hd : Blk w pd 27 #[x]) (hx : Rb w B x ys) (hys : ys.length ≤ 1000000000) (hsh : Short [] ys) :
    Calls Try.prog 27 #[.pointer (some ⟨pd, 0, none⟩), .pointer (some ⟨pf, 0, none⟩), .pointer (some ⟨po, 0, none⟩), .pointer (some ⟨pr, 0, none⟩)] w fun e w' => e = .returned (.tuple #[]) ∧ Below w.heap.size w w' := by
  have hd0 := hd.cell0
  have H := Lib.hid (ZZRead_err hx hys hsh)
  obtain ⟨A, c, rfl, _⟩ := hx
  clear hsh
  go_enter Try.func27, Try.ntmps27
  go_wp2_with fail
  refine H.out.mono ?_
  rintro e w1 ⟨n, s, rfl, hb⟩
  have hen := fun w => err_nil s w
  go_wp2_with fail
  go_end0
  exact ⟨rfl, hb⟩

theorem call27 (a b c d : Value) (w : World) : (callFunc 27 #[a, b, c, d]).run Try.prog w = .ok (.enter 27 #[a, b, c, d]) w := by kernel_rfl

set_option maxRecDepth 100000 in
set_option maxHeartbeats 2000000 in
/-- ParseTable, where too little is there -/
theorem ParseTable_err {B : Nat} {x : Value} {ys : List UInt8} {w : World} (hx : Rb w B x ys) (hBw : B ≤ w.heap.size) (hys : ys.length ≤ 1000000000) (hsh : Short [] ys) :
    Calls Try.prog 14 #[x] w fun e w' => e = .returned (.tuple #[.slice none 0 0, .int .i64 0, .bool false]) ∧ Below w.heap.size w w' := by
  obtain ⟨x0, hx0⟩ : ∃ x0, x0 = x := ⟨_, rfl⟩
  obtain ⟨A, c, hv⟩ : ∃ A c, x = .slice A ys.length c := by obtain ⟨A, c, e, _⟩ := hx; exact ⟨A, c, e⟩
  subst hv
  have HX := Lib.hid hx
  have HSh := Lib.hid hsh
  clear hx hsh
  go_enter Try.func14, Try.ntmps14
  go_wp2_with fail
  have b1 : Blk ((((w.alloc (.cells #[.slice A ys.length c] 27)).alloc (.cells #[.slice none 0 0] 22)).alloc (.cells #[.int .i64 0] 3)).alloc (.cells #[.bool false] 4)) w.heap.size 27 #[.slice A ys.length c] :=
    (((Blk.new w _ _).alloc _).alloc _).alloc _
  have b2 : Blk ((((w.alloc (.cells #[.slice A ys.length c] 27)).alloc (.cells #[.slice none 0 0] 22)).alloc (.cells #[.int .i64 0] 3)).alloc (.cells #[.bool false] 4)) (w.heap.size + 1) 22 #[.slice none 0 0] := by
    have := (((Blk.new (w.alloc (.cells #[.slice A ys.length c] 27)) 22 #[.slice none 0 0]).alloc (.cells #[.int .i64 0] 3)).alloc (.cells #[.bool false] 4)); simpa using this
  have b3 : Blk ((((w.alloc (.cells #[.slice A ys.length c] 27)).alloc (.cells #[.slice none 0 0] 22)).alloc (.cells #[.int .i64 0] 3)).alloc (.cells #[.bool false] 4)) (w.heap.size + 1 + 1) 3 #[.int .i64 0] := by
    have := ((Blk.new ((w.alloc (.cells #[.slice A ys.length c] 27)).alloc (.cells #[.slice none 0 0] 22)) 3 #[.int .i64 0]).alloc (.cells #[.bool false] 4)); simpa using this
  have b4 : Blk ((((w.alloc (.cells #[.slice A ys.length c] 27)).alloc (.cells #[.slice none 0 0] 22)).alloc (.cells #[.int .i64 0] 3)).alloc (.cells #[.bool false] 4)) (w.heap.size + 1 + 1 + 1) 4 #[.bool false] := by
    have := (Blk.new (((w.alloc (.cells #[.slice A ys.length c] 27)).alloc (.cells #[.slice none 0 0] 22)).alloc (.cells #[.int .i64 0] 3)) 4 #[.bool false]); simpa using this
  have hbel : Below w.heap.size w ((((w.alloc (.cells #[.slice A ys.length c] 27)).alloc (.cells #[.slice none 0 0] 22)).alloc (.cells #[.int .i64 0] 3)).alloc (.cells #[.bool false] 4)) :=
    ((((Below.refl _ _).alloc (Nat.le_refl _) _).alloc (by simp) _).alloc (by simp; omega) _).alloc (by simp; omega) _
  have hsz : ((((w.alloc (.cells #[.slice A ys.length c] 27)).alloc (.cells #[.slice none 0 0] 22)).alloc (.cells #[.int .i64 0] 3)).alloc (.cells #[.bool false] 4)).heap.size = w.heap.size + 4 := by simp
  generalize ((((w.alloc (.cells #[.slice A ys.length c] 27)).alloc (.cells #[.slice none 0 0] 22)).alloc (.cells #[.int .i64 0] 3)).alloc (.cells #[.bool false] 4)) = w4 at b1 b2 b3 b4 hbel hsz ⊢
  have hbel5 := hbel.alloc (by omega) (.cells #[.bool false] 4)
  have hcall := parseT1_err (pf := w.heap.size + 1) (po := w.heap.size + 1 + 1 + 1) (pr := w.heap.size + 1 + 1) (b1.alloc (.cells #[.bool false] 4)) (HX.out.below (hbel5.mono hBw)) hys HSh.out
  refine (quietly_any (R := fun w' => Below (w4.alloc (.cells #[.bool false] 4)).heap.size (w4.alloc (.cells #[.bool false] 4)) w') (fun w => call27 _ _ _ _ w) (hcall.mono ?_)).mono ?_
  · rintro e w' ⟨rfl, k3⟩
    exact ⟨rfl, (Blk.new w4 4 _).below k3 (by simp), k3⟩
  clear hcall
  rintro e w' ⟨rfl, w5, k3, k4, rfl⟩
  have j2 : Blk (w5.setCell ⟨w4.heap.size, 0, none⟩ (.bool true)) (w.heap.size + 1) 22 #[.slice none 0 0] := ((b2.alloc (.cells #[.bool false] 4)).below k3 (by have := b2.lt; simp; omega)).far (by simp; omega) _
  have j3 : Blk (w5.setCell ⟨w4.heap.size, 0, none⟩ (.bool true)) (w.heap.size + 1 + 1) 3 #[.int .i64 0] := ((b3.alloc (.cells #[.bool false] 4)).below k3 (by have := b3.lt; simp; omega)).far (by simp; omega) _
  have j4 : Blk (w5.setCell ⟨w4.heap.size, 0, none⟩ (.bool true)) (w.heap.size + 1 + 1 + 1) 4 #[.bool false] := ((b4.alloc (.cells #[.bool false] 4)).below k3 (by have := b4.lt; simp; omega)).far (by simp; omega) _
  have j5 : Below w.heap.size w (w5.setCell ⟨w4.heap.size, 0, none⟩ (.bool true)) := (hbel5.trans (k3.mono (by simp; omega))).setCell (by simp; omega) _
  generalize w5.setCell ⟨w4.heap.size, 0, none⟩ (.bool true) = w6 at j2 j3 j4 j5 ⊢
  have q0 := j2.cell0
  have q1 := j2.frozen 0
  have q2 := j3.cell0
  have q3 := j3.frozen 0
  have q4 := j4.cell0
  have q5 := j4.frozen 0
  go_wp2_with fail
  have i2 : Blk (w6.setCell ⟨w.heap.size + 1, 0, none⟩ (.slice none 0 0)) (w.heap.size + 1) 22 #[.slice none 0 0] := by simpa using j2.set_ 0 (.slice none 0 0)
  have i3 : Blk ((w6.setCell ⟨w.heap.size + 1, 0, none⟩ (.slice none 0 0)).setCell ⟨w.heap.size + 1 + 1, 0, none⟩ (.int .i64 0)) (w.heap.size + 1 + 1) 3 #[.int .i64 0] := by
    have := (j3.far (p := ⟨w.heap.size + 1, 0, none⟩) (by simp; try omega) (.slice none 0 0)).set_ 0 (.int .i64 0); simpa using this
  have i4 : Blk (((w6.setCell ⟨w.heap.size + 1, 0, none⟩ (.slice none 0 0)).setCell ⟨w.heap.size + 1 + 1, 0, none⟩ (.int .i64 0)).setCell ⟨w.heap.size + 1 + 1 + 1, 0, none⟩ (.bool false)) (w.heap.size + 1 + 1 + 1) 4 #[.bool false] := by
    have := ((j4.far (p := ⟨w.heap.size + 1, 0, none⟩) (by simp; try omega) (.slice none 0 0)).far (p := ⟨w.heap.size + 1 + 1, 0, none⟩) (by simp; try omega) (.int .i64 0)).set_ 0 (.bool false); simpa using this
  have f2 := ((i2.far (p := ⟨w.heap.size + 1 + 1, 0, none⟩) (by simp; try omega) (.int .i64 0)).far (p := ⟨w.heap.size + 1 + 1 + 1, 0, none⟩) (by simp; try omega) (.bool false)).cell0
  have f3 := (i3.far (p := ⟨w.heap.size + 1 + 1 + 1, 0, none⟩) (by simp; try omega) (.bool false)).cell0
  have f4 := i4.cell0
  have e1 : Below w.heap.size w (((w6.setCell ⟨w.heap.size + 1, 0, none⟩ (.slice none 0 0)).setCell ⟨w.heap.size + 1 + 1, 0, none⟩ (.int .i64 0)).setCell ⟨w.heap.size + 1 + 1 + 1, 0, none⟩ (.bool false)) :=
    ((j5.setCell (by simp) _).setCell (by simp; omega) _).setCell (by simp; omega) _
  exact bodyPost_ret (v := .tuple #[.slice none 0 0, .int .i64 0, .bool false]) (by simp [results, Try.results14, go_sem, f2, f3, f4]) rfl ⟨rfl, e1⟩
end Go.Proofs.Ytkcdakohmfodjaa
