/-
  The writer of frames, at a heartbeat.
-/
import Derived.Test.YtabeppaehenefaaGreatWa
import Derived.Deep.RegionHeld3
import Derived.Deep.DrawnRows
import Derived.Recover
namespace Go.Proofs.YtabeppaehenefaaGreat
open Go.RowKit
attribute [local go_sem ↓] Go.wp_at_zero Go.wp_at_succ

@[go_sem] theorem meth_hbwrite (a : Addr) (w : World) : (method 480 80 (.pointer (some a)) "amqp091/pub/amqp091.write").run Tryz.prog w = .ok (69, .pointer (some a)) w := by kernel_rfl
@[go_sem] theorem ahead_hbwrite (a : Addr) (w : World) : (nilAhead 480 80 (.pointer (some a)) "amqp091/pub/amqp091.write").run Tryz.prog w = .ok (some false) w := by kernel_rfl

set_option maxHeartbeats 1000000 in
/-- (*heartbeatFrame).write -/
theorem hbwrite_any {B bb fb : Nat} {sv : Value} {xs : List UInt8} {w : World} (ch : Nat) (hb : Buf w B 281 bb sv xs) (hf : Blk w fb 82 #[.int .u16 ch]) (hB : B ≤ w.heap.size)
    (hn : xs.length ≤ 140737488354000) (h1 : ch < 65536) :
    Calls Tryz.prog 69 #[.pointer (some ⟨fb, 0, none⟩), .iface 279 (.pointer (some ⟨bb, 0, none⟩))] w fun e w' => e = .returned .nilIface ∧
      ∃ sv', Buf w' B 281 bb sv' (xs ++ (fhead 8 ch 0 ++ [] ++ [206])) ∧ Wr w w' bb sv.ownBlock sv'.ownBlock := by
  have hc := hf.cell0
  have hrl := hb.row_lt
  have hbl := hb.lt
  go_enter Tryz.func69, Tryz.ntmps69
  go_wp2_with fail
  refine (writeFrame_any 8 ch (hb.alloc _) (Rb.nil _ _ 0 (some ⟨w.heap.size, 0, none⟩)) (by simp; omega) (by simp; omega) (by omega) h1 (by simp [Value.ownBlock]; omega)
    (by simp only [Value.ownBlock]; rintro g hg e; have := (hrl g e.symm).2; simp at hg; omega)).mono ?_
  rintro e w1 ⟨rfl, sv1, hb1, hw1⟩
  go_wp2
  go_ret
  exact ⟨rfl, sv1, hb1, ((Wr.refl w bb _).alloc _).trans hw1⟩

set_option maxHeartbeats 1000000 in
/-- (*writer).WriteFrame, at a heartbeat -/
theorem WriteFrame_hb {B bb fb wb : Nat} {sv : Value} {xs : List UInt8} {w : World} (ch : Nat) (hb : Buf w B 281 bb sv xs) (hf : Blk w fb 82 #[.int .u16 ch]) (hwr : Blk w wb 286 #[.iface 279 (.pointer (some ⟨bb, 0, none⟩))]) (hB : B ≤ w.heap.size)
    (hn : xs.length ≤ 140737488354000) (h1 : ch < 65536) :
    Calls Tryz.prog 37 #[.pointer (some ⟨wb, 0, none⟩), .iface 80 (.pointer (some ⟨fb, 0, none⟩))] w fun e w' => e = .returned .nilIface ∧
      ∃ sv', Buf w' B 281 bb sv' (xs ++ (fhead 8 ch 0 ++ [] ++ [206])) ∧ Wr w w' bb sv.ownBlock sv'.ownBlock := by
  have hc := hwr.cell0
  go_enter Tryz.func37, Tryz.ntmps37
  go_wp2_with fail
  have hne1 : wb ≠ bb := Blk.ne_ hwr hb.blk (by decide)
  have hne2 := hb.row_ne hwr (by decide)
  go_region_held3 (fun w' => w'.cell? ⟨wb, 0, none⟩ = some (.iface 279 (.pointer (some ⟨bb, 0, none⟩)))) (first | assumption | go_keep)
    (first | (go_at_call 69; refine (hbwrite_any ch hb.drew hf.drew hB hn h1).mono ?_; rintro e w1 ⟨rfl, sv1, hb1, hw1⟩; have hk := (hw1.blk hwr.drew hne1 hne2).cell0))
  go_wp2
  go_ret
  exact ⟨rfl, sv1, hb1, ⟨hw1.os, hw1.tape, hw1.output, hw1.size, hw1.block, hw1.row⟩⟩

/-- quietly's deferred function, at a call that returns -/
theorem quiet_idle (p : Addr) (w : World) :
    CallsD Tryz.prog 36 #[.pointer (some p)] .returning w fun e u' w' => e = .returned (.tuple #[]) ∧ u' = .returning ∧ w' = w := by
  refine callsD_of_wpS Tryz.func36 rfl fun c₀ cs hu => ?_
  apply wpS_seq
  apply wpS_region
  simp [wpOpsS, go_sem, recoverD, hu, Tryz.ntmps36, Exit.thenS]
  refine wpS_cond (t := false) (by simp [Act.eval, Array.replicate]) ?_
  simp only [Bool.false_eq_true, if_false]
  refine wpS_of_wp (wp_skip ?_)
  cases c₀
  simp_all [bodyPostS, results, Tryz.results36]

/-- quietly -/
theorem quietly_any {k : FuncId} {caps : Array Value} {w : World} {R : World → Prop}
    (hk : ∀ w : World, (callFunc k caps).run Tryz.prog w = .ok (.enter k caps) w)
    (h : Calls Tryz.prog k caps (w.alloc (.cells #[.bool false] 4)) fun e w' => e = .returned (.tuple #[]) ∧ Blk w' w.heap.size 4 #[.bool false] ∧ R w') :
    Calls Tryz.prog 28 #[.func (.func k) #[] caps] w fun e w' => e = .returned (.bool true) ∧ ∃ w1, R w1 ∧ Blk w1 w.heap.size 4 #[.bool false] ∧ w' = w1.setCell ⟨w.heap.size, 0, none⟩ (.bool true) := by
  have hmf : ∀ (fn : Fn) (first cap : Array Value) (w : World), (Instr.makeFunc fn first cap).run Tryz.prog w = .ok (.func fn first cap) w := fun _ _ _ _ => rfl
  go_enter_defers Tryz.func28, Tryz.ntmps28
  go_wp2_with fail
  refine h.mono ?_
  rintro e w1 ⟨rfl, hb, hR⟩
  have hc := hb.cell0
  have hf := hb.frozen 0
  go_wp2
  refine leaves_cons (f := 36) (args := #[.pointer (some ⟨w.heap.size, 0, none⟩)]) (by simp) (by simp [go_sem]) ?_
  refine (quiet_idle ⟨w.heap.size, 0, none⟩ _).mono ?_
  rintro e u' w'' ⟨rfl, rfl, rfl⟩
  have hb2 := hb.set_ 0 (.bool true)
  have hc2 : (w1.setCell ⟨w.heap.size, 0, none⟩ (.bool true)).cell? ⟨w.heap.size, 0, none⟩ = some (.bool true) := by simpa using hb2.cell 0
  simp [Leaves, settle, results, Tryz.results28, go_sem, hc2]
  exact ⟨w1, hR, hb, rfl⟩

/-- ZZWriteFrame, at a heartbeat -/
theorem ZZWriteFrame_hb {fb : Nat} {w : World} (ch : Nat) (hf : Blk w fb 82 #[.int .u16 ch]) (h1 : ch < 65536) :
    Calls Tryz.prog 30 #[.iface 80 (.pointer (some ⟨fb, 0, none⟩))] w fun e w' => ∃ sv, e = .returned (.tuple #[sv, .nilIface]) ∧ Own w' w.heap.size sv (fhead 8 ch 0 ++ [] ++ [206]) ∧ Below w.heap.size w w' := by
  have hbuf := Buf.new w (B := w.heap.size) 281 (by decide) (Nat.le_refl _)
  have hbuf2 := hbuf.alloc (.cells #[.iface 279 (.pointer (some ⟨w.heap.size, 0, none⟩))] 286)
  have hwb := Blk.new (w.alloc (.cells #[.slice none 0 0] 281)) 286 #[.iface 279 (.pointer (some ⟨w.heap.size, 0, none⟩))]
  go_enter Tryz.func30, Tryz.ntmps30
  go_wp2_with fail
  refine (WriteFrame_hb ch hbuf2 ((hf.alloc _).alloc _) (by simpa using hwb) (by simp; omega) (by simp) h1).mono ?_
  rintro e w1 ⟨rfl, sv1, hb1, hw1⟩
  go_wp2_with fail
  refine (bytes_any hb1).mono ?_
  rintro e w2 ⟨rfl, rfl⟩
  go_wp2
  go_ret2
  exact ⟨_, rfl, by simpa using hb1.isOwn, ((((Below.refl _ _).alloc (Nat.le_refl _) _).alloc (by simp) _)).trans (hw1.below (Nat.le_refl _) (by simp [Value.ownBlock]) (by simp; omega))⟩

/-- behind the two stores of what was written and that it was -/
theorem stored2 {w w2 : World} {B pb po : Nat} {sv old1 old2 x : Value} {ys : List UInt8} (kb : Blk w2 pb 32 #[old1]) (ko : Blk w2 po 4 #[old2]) (hown : Own w2 B sv ys) (hB : Below w.heap.size w w2) (hBw : w.heap.size ≤ B) :
    Blk ((w2.setCell ⟨pb, 0, none⟩ sv).setCell ⟨po, 0, none⟩ x).drew pb 32 #[sv] ∧ Blk ((w2.setCell ⟨pb, 0, none⟩ sv).setCell ⟨po, 0, none⟩ x).drew po 4 #[x] ∧
      Own ((w2.setCell ⟨pb, 0, none⟩ sv).setCell ⟨po, 0, none⟩ x).drew w.heap.size sv ys ∧ But w ((w2.setCell ⟨pb, 0, none⟩ sv).setCell ⟨po, 0, none⟩ x).drew [pb, po] := by
  have hne : pb ≠ po := Blk.ne_ kb ko (by decide)
  have k1 : Blk (w2.setCell ⟨pb, 0, none⟩ sv) po 4 #[old2] := ko.far (fun e => hne e.symm) sv
  have k0 : Blk (w2.setCell ⟨pb, 0, none⟩ sv) pb 32 #[sv] := by simpa using kb.set_ 0 sv
  refine ⟨(k0.far hne x).drew, ?_, ?_, ?_⟩
  · have := (k1.set_ 0 x).drew
    simpa using this
  · exact ((hown.setCell kb (by decide) 0 sv).setCell k1 (by decide) 0 x).drew.more hBw
  · exact (((But.ofBelow hB _).setCell (.inl (by simp)) _).setCell (.inl (by simp)) _).drew

/-- What a call of a frame's maker and of the writer comes to. -/
def FrameGives (f : Array Value → World → (Ending → World → Prop) → Prop) (args : Array Value) (w : World) (ys : List UInt8) : Prop :=
  f args w fun e w1 => ∃ fv, e = .returned (.tuple #[fv, .bool true]) ∧ Below w.heap.size w w1 ∧
    Calls Tryz.prog 30 #[fv] w1 fun e w2 => ∃ sv, e = .returned (.tuple #[sv, .nilIface]) ∧ Own w2 w1.heap.size sv ys ∧ Below w1.heap.size w1 w2

set_option maxRecDepth 100000 in
/-- written's inner function -/
theorem written1_any {pf pc pb po kf : Nat} {caps : Array Value} {w : World} {ch : Nat} {ys : List UInt8} (hf : Blk w pf 68 #[.func (.func kf) #[] caps]) (hc : Blk w pc 3 #[.int .i64 ch])
    (hb : Blk w pb 32 #[.slice none 0 0]) (ho : Blk w po 4 #[.bool false]) (hch : ch < 65536)
    (hk : ∀ w : World, (callFunc kf (#[.int .u16 ch] ++ caps)).run Tryz.prog w = .ok (.enter kf (#[.int .u16 ch] ++ caps)) w)
    (h : FrameGives (Calls Tryz.prog kf) (#[.int .u16 ch] ++ caps) w ys) :
    Calls Tryz.prog 29 #[.pointer (some ⟨pf, 0, none⟩), .pointer (some ⟨pc, 0, none⟩), .pointer (some ⟨pb, 0, none⟩), .pointer (some ⟨po, 0, none⟩)] w fun e w' => e = .returned (.tuple #[]) ∧
      ∃ sv, Blk w' pb 32 #[sv] ∧ Blk w' po 4 #[.bool true] ∧ Own w' w.heap.size sv ys ∧ But w w' [pb, po] := by
  have hf0 := hf.cell0
  have hc0 := hc.cell0
  have Hk := Lib.hid hk
  clear hk
  go_enter Tryz.func29, Tryz.ntmps29
  go_wp2_with fail
  rw [Hk.out, Oper.upon_enter]
  refine h.mono ?_
  rintro e w1 ⟨fv, rfl, hb1, hcall⟩
  go_wp2_with fail
  refine hcall.mono ?_
  rintro e w2 ⟨sv, rfl, hown, hb2⟩
  have hB2 := hb1.trans (hb2.mono hb1.size)
  have kb := hb.below hB2 hb.lt
  have ko := ho.below hB2 ho.lt
  have hpo : pb ≠ po := Blk.ne_ hb ho (by decide)
  obtain ⟨A, c, rfl⟩ := own_shape hown
  have q0 := kb.cell0
  have q1 := kb.frozen 0
  have q2 := ko.cell0
  have q3 := ko.frozen 0
  go_wp2_with fail
  go_region
  go_wp2
  go_end0
  exact ⟨rfl, _, stored2 kb ko hown hB2 hb1.size⟩

theorem call46 (a b c d : Value) (w : World) : (callFunc 29 #[a, b, c, d]).run Tryz.prog w = .ok (.enter 29 #[a, b, c, d]) w := by kernel_rfl

set_option maxRecDepth 100000 in
/-- written -/
theorem written_any {kf : Nat} {caps : Array Value} {w : World} {ch : Nat} {ys : List UInt8} (hch : ch < 65536)
    (hk : ∀ w : World, (callFunc kf (#[.int .u16 ch] ++ caps)).run Tryz.prog w = .ok (.enter kf (#[.int .u16 ch] ++ caps)) w)
    (h : ∀ w1, Below w.heap.size w w1 → FrameGives (Calls Tryz.prog kf) (#[.int .u16 ch] ++ caps) w1 ys) :
    Calls Tryz.prog 15 #[.int .i64 ch, .func (.func kf) #[] caps] w fun e w' => ∃ sv, e = .returned (.tuple #[sv, .bool true]) ∧ Own w' w.heap.size sv ys ∧ Below w.heap.size w w' := by
  have Hk := Lib.hid hk
  have H := Lib.hid h
  clear hk h
  go_enter Tryz.func15, Tryz.ntmps15
  go_wp2_with fail
  have b0 : Blk ((((w.alloc (.cells #[.int .i64 ch] 3)).alloc (.cells #[.func (.func kf) #[] caps] 68)).alloc (.cells #[.slice none 0 0] 32)).alloc (.cells #[.bool false] 4)) w.heap.size 3 #[.int .i64 ch] :=
    (((Blk.new w _ _).alloc _).alloc _).alloc _
  have b1 : Blk ((((w.alloc (.cells #[.int .i64 ch] 3)).alloc (.cells #[.func (.func kf) #[] caps] 68)).alloc (.cells #[.slice none 0 0] 32)).alloc (.cells #[.bool false] 4)) (w.heap.size + 1) 68 #[.func (.func kf) #[] caps] := by
    have := (((Blk.new (w.alloc (.cells #[.int .i64 ch] 3)) 68 #[.func (.func kf) #[] caps]).alloc (.cells #[.slice none 0 0] 32)).alloc (.cells #[.bool false] 4)); simpa using this
  have b2 : Blk ((((w.alloc (.cells #[.int .i64 ch] 3)).alloc (.cells #[.func (.func kf) #[] caps] 68)).alloc (.cells #[.slice none 0 0] 32)).alloc (.cells #[.bool false] 4)) (w.heap.size + 1 + 1) 32 #[.slice none 0 0] := by
    have := ((Blk.new ((w.alloc (.cells #[.int .i64 ch] 3)).alloc (.cells #[.func (.func kf) #[] caps] 68)) 32 #[.slice none 0 0]).alloc (.cells #[.bool false] 4)); simpa using this
  have b3 : Blk ((((w.alloc (.cells #[.int .i64 ch] 3)).alloc (.cells #[.func (.func kf) #[] caps] 68)).alloc (.cells #[.slice none 0 0] 32)).alloc (.cells #[.bool false] 4)) (w.heap.size + 1 + 1 + 1) 4 #[.bool false] := by
    have := (Blk.new (((w.alloc (.cells #[.int .i64 ch] 3)).alloc (.cells #[.func (.func kf) #[] caps] 68)).alloc (.cells #[.slice none 0 0] 32)) 4 #[.bool false]); simpa using this
  have hbel : Below w.heap.size w ((((w.alloc (.cells #[.int .i64 ch] 3)).alloc (.cells #[.func (.func kf) #[] caps] 68)).alloc (.cells #[.slice none 0 0] 32)).alloc (.cells #[.bool false] 4)) :=
    ((((Below.refl _ _).alloc (Nat.le_refl _) _).alloc (by simp) _).alloc (by simp; omega) _).alloc (by simp; omega) _
  have hsz : ((((w.alloc (.cells #[.int .i64 ch] 3)).alloc (.cells #[.func (.func kf) #[] caps] 68)).alloc (.cells #[.slice none 0 0] 32)).alloc (.cells #[.bool false] 4)).heap.size = w.heap.size + 4 := by simp
  generalize ((((w.alloc (.cells #[.int .i64 ch] 3)).alloc (.cells #[.func (.func kf) #[] caps] 68)).alloc (.cells #[.slice none 0 0] 32)).alloc (.cells #[.bool false] 4)) = w4 at b0 b1 b2 b3 hbel hsz ⊢
  refine (quietly_any (R := fun w' => ∃ sv, Blk w' (w.heap.size + 1 + 1) 32 #[sv] ∧ Blk w' (w.heap.size + 1 + 1 + 1) 4 #[.bool true] ∧ Own w' (w4.alloc (.cells #[.bool false] 4)).heap.size sv ys ∧ But (w4.alloc (.cells #[.bool false] 4)) w' [w.heap.size + 1 + 1, w.heap.size + 1 + 1 + 1])
    (fun w => call46 _ _ _ _ w) ((written1_any (b1.alloc _) (b0.alloc _) (b2.alloc _) (b3.alloc _) hch Hk.out (H.out _ (hbel.alloc (by omega) _))).mono ?_)).mono ?_
  · rintro e w' ⟨rfl, sv, k0, k1, k2, k3⟩
    refine ⟨rfl, k3.blk (Blk.new w4 4 _) (by simp; omega), sv, k0, k1, k2, k3⟩
  rintro e w' ⟨rfl, w5, ⟨sv, k0, k1, k2, k3⟩, k4, rfl⟩
  have j0 : Blk (w5.setCell ⟨w4.heap.size, 0, none⟩ (.bool true)) (w.heap.size + 1 + 1) 32 #[sv] := k0.far (by simp; omega) _
  have j1 : Blk (w5.setCell ⟨w4.heap.size, 0, none⟩ (.bool true)) (w.heap.size + 1 + 1 + 1) 4 #[.bool true] := k1.far (by simp; omega) _
  have j2 : Own (w5.setCell ⟨w4.heap.size, 0, none⟩ (.bool true)) w.heap.size sv ys := (k2.setCell k4 (by decide) 0 _).more (by simp; omega)
  have j3 : Below w.heap.size w (w5.setCell ⟨w4.heap.size, 0, none⟩ (.bool true)) :=
    (hbel.trans (((Below.refl _ _).alloc (by omega) _).trans (k3.below (by simp; omega) (by simp; omega)))).setCell (by simp; omega) _
  generalize w5.setCell ⟨w4.heap.size, 0, none⟩ (.bool true) = w6 at j0 j1 j2 j3 ⊢
  obtain ⟨A, c, rfl⟩ := own_shape j2
  have q0 := j0.cell0
  have q1 := j0.frozen 0
  have q2 := j1.cell0
  have q3 := j1.frozen 0
  have i0 : Blk (w6.setCell ⟨w.heap.size + 1 + 1, 0, none⟩ (.slice A ys.length c)) (w.heap.size + 1 + 1) 32 #[.slice A ys.length c] := by simpa using j0.set_ 0 (.slice A ys.length c)
  have i1 : Blk (w6.setCell ⟨w.heap.size + 1 + 1, 0, none⟩ (.slice A ys.length c)) (w.heap.size + 1 + 1 + 1) 4 #[.bool true] := j1.far (by simp) _
  have i2 := i1.set_ 0 (.bool true)
  have q4 : (((w6.setCell ⟨w.heap.size + 1 + 1, 0, none⟩ (.slice A ys.length c)).setCell ⟨w.heap.size + 1 + 1 + 1, 0, none⟩ (.bool true))).cell? ⟨w.heap.size + 1 + 1, 0, none⟩ = some (.slice A ys.length c) := (i0.far (by simp) _).cell0
  have q5 : (((w6.setCell ⟨w.heap.size + 1 + 1, 0, none⟩ (.slice A ys.length c)).setCell ⟨w.heap.size + 1 + 1 + 1, 0, none⟩ (.bool true))).cell? ⟨w.heap.size + 1 + 1 + 1, 0, none⟩ = some (.bool true) := by simpa using i2.cell 0
  have e0 : Own ((w6.setCell ⟨w.heap.size + 1 + 1, 0, none⟩ (.slice A ys.length c)).setCell ⟨w.heap.size + 1 + 1 + 1, 0, none⟩ (.bool true)) w.heap.size (.slice A ys.length c) ys := (j2.setCell j0 (by decide) 0 _).setCell i1 (by decide) 0 _
  have e1 : Below w.heap.size w ((w6.setCell ⟨w.heap.size + 1 + 1, 0, none⟩ (.slice A ys.length c)).setCell ⟨w.heap.size + 1 + 1 + 1, 0, none⟩ (.bool true)) := (j3.setCell (by simp; omega) _).setCell (by simp; omega) _
  go_wp2
  exact bodyPost_ret (v := .tuple #[.slice A ys.length c, .bool true]) (by simp [results, Tryz.results15, go_sem, q4, q5]) rfl ⟨_, rfl, e0, e1⟩

theorem call33 (a : Value) (w : World) : (callFunc 27 (#[a] ++ #[])).run Tryz.prog w = .ok (.enter 27 (#[a] ++ #[])) w := by kernel_rfl

/-- FormatHeartbeat's maker -/
theorem hbmaker_any (ch : Nat) (w : World) : Calls Tryz.prog 27 #[.int .u16 ch] w fun e w' => e = .returned (.tuple #[.iface 80 (.pointer (some ⟨w.heap.size, 0, none⟩)), .bool true]) ∧ w' = w.alloc (.cells #[.int .u16 ch] 82) := by
  go_enter Tryz.func27, Tryz.ntmps27
  go_wp2
  go_ret2
  exact ⟨rfl, rfl⟩

/-- FormatHeartbeat -/
theorem FormatHeartbeat_any (w : World) : Calls Tryz.prog 14 #[] w fun e w' => ∃ sv, e = .returned (.tuple #[sv, .bool true]) ∧ Own w' w.heap.size sv (fhead 8 0 0 ++ [] ++ [206]) ∧ Below w.heap.size w w' := by
  have H := Lib.hid (written_any (w := w) (kf := 27) (caps := #[]) (ch := 0) (ys := fhead 8 0 0 ++ [] ++ [206]) (by omega) (fun w => call33 _ w) (fun w1 _ => (hbmaker_any 0 w1).mono (by
    rintro e w2 ⟨rfl, rfl⟩
    exact ⟨_, rfl, (Below.refl _ _).alloc (Nat.le_refl _) _, ZZWriteFrame_hb 0 (Blk.new w1 82 _) (by omega)⟩)))
  go_enter Tryz.func14, Tryz.ntmps14
  go_wp2_with fail
  refine H.out.mono ?_
  rintro e w1 ⟨sv, rfl, h1, h2⟩
  go_wp2
  go_ret2
  exact ⟨_, rfl, h1, h2⟩

/-- works -/
theorem works_any (w : World) : Calls Tryz.prog 7 #[] w fun e w' => e = .returned (.bool true) ∧ Below w.heap.size w w' := by
  go_enter Tryz.func7, Tryz.ntmps7
  go_wp2_with fail
  refine (FormatHeartbeat_any w).mono ?_
  rintro e w1 ⟨sv, rfl, h1, h2⟩
  have hl : (fhead 8 0 0 ++ [] ++ [206]).length = 8 := by simp [fhead_len]
  obtain ⟨A, c, rfl⟩ := own_shape h1
  rw [hl]
  go_wp2
  go_ret
  exact ⟨rfl, h2⟩

end Go.Proofs.YtabeppaehenefaaGreat
