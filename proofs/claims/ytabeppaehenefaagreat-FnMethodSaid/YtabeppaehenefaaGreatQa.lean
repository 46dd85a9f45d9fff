/-
  FnMethod: what a message is to its frame; methodFrame.write, WriteFrame and ZZWriteFrame at a method's frame.
-/
import Derived.Test.YtabeppaehenefaaGreatNa
import Derived.Test.YtabeppaehenefaaGreatWe
namespace Go.Proofs.YtabeppaehenefaaGreat
open Go.RowKit
attribute [local go_sem ↓] Go.wp_at_zero Go.wp_at_succ

/-- a message that was there in world w: it tells its class and number, and writes these bytes -/
structure MsgAt (w : World) (T : TypeId) (g fi fw : Nat) (cl me : Nat) (ys : List UInt8) : Prop where
  d1 : ∀ w, (method 480 T (.pointer (some ⟨g, 0, none⟩)) "amqp091/pub/amqp091.id").run Tryz.prog w = .ok (fi, .pointer (some ⟨g, 0, none⟩)) w
  d2 : ∀ w, (method 480 T (.pointer (some ⟨g, 0, none⟩)) "amqp091/pub/amqp091.write").run Tryz.prog w = .ok (fw, .pointer (some ⟨g, 0, none⟩)) w
  e1 : ∀ w, (callFunc fi #[.pointer (some ⟨g, 0, none⟩)]).run Tryz.prog w = .ok (.enter fi #[.pointer (some ⟨g, 0, none⟩)]) w
  e2 : ∀ v w, (callFunc fw #[.pointer (some ⟨g, 0, none⟩), v]).run Tryz.prog w = .ok (.enter fw #[.pointer (some ⟨g, 0, none⟩), v]) w
  id : ∀ w', Calls Tryz.prog fi #[.pointer (some ⟨g, 0, none⟩)] w' fun e w'' => e = .returned (.tuple #[.int .u16 cl, .int .u16 me]) ∧ w'' = w'
  write : ∀ w' B bb sv xs, Below w.heap.size w w' → w.heap.size ≤ B → Buf w' B 281 bb sv xs → B ≤ w'.heap.size → xs.length ≤ 100 →
    Calls Tryz.prog fw #[.pointer (some ⟨g, 0, none⟩), .iface 279 (.pointer (some ⟨bb, 0, none⟩))] w' (Gave w' B bb sv xs ys)

set_option maxRecDepth 100000 in
set_option maxHeartbeats 4000000 in
/-- (*methodFrame).write -/
theorem mfwrite_any {B bb fb : Nat} {sv : Value} {xs ys : List UInt8} {w0 w : World} {T : TypeId} {g fi fw cl me : Nat} (ch : Nat) (hM : MsgAt w0 T g fi fw cl me ys) (h0 : Below w0.heap.size w0 w) (hb : Buf w B 281 bb sv xs)
    (hf : Blk w fb 67 #[.int .u16 ch, .int .u16 cl, .int .u16 me, .iface T (.pointer (some ⟨g, 0, none⟩))]) (hB : B ≤ w.heap.size)
    (hn : xs.length + ys.length ≤ 140737488300000) (h1 : ch < 65536) (h2 : cl < 65536) (h3 : me < 65536) :
    Calls Tryz.prog 61 #[.pointer (some ⟨fb, 0, none⟩), .iface 279 (.pointer (some ⟨bb, 0, none⟩))] w fun e w' => e = .returned .nilIface ∧
      ∃ sv', Buf w' B 281 bb sv' (xs ++ (fhead 1 ch (be cl 2 ++ (be me 2 ++ ys)).length ++ (be cl 2 ++ (be me 2 ++ ys)) ++ [206])) ∧ Wr w w' bb sv.ownBlock sv'.ownBlock := by
  have HM := Lib.hid hM
  have d1 := hM.d1
  have d2 := hM.d2
  have e1 := hM.e1
  have e2 := hM.e2
  have HD := Lib.hid h0
  have HB := Lib.hid hb
  have hpb := Buf.new w (B := w.heap.size) 281 (by decide) (Nat.le_refl _)
  have hf1 := hf.alloc (.cells #[.slice none 0 0] 281)
  have m3 : (w.alloc (.cells #[.slice none 0 0] 281)).cell? ⟨fb, 3, none⟩ = some (.iface T (.pointer (some ⟨g, 0, none⟩))) := by rw [hf1.cell]; rfl
  have HF := Lib.hid hf
  have HF1 := Lib.hid hf1
  have HPB := Lib.hid hpb
  have HFF := Lib.hid (hM.id (w.alloc (.cells #[.slice none 0 0] 281)))
  clear hM h0 hb hf hf1 hpb
  go_enter Tryz.func61, Tryz.ntmps61
  go_wp2_with fail
  refine HFF.out.mono ?_
  rintro e wz ⟨rfl, rfl⟩
  have HC1 := Lib.hid (fixed16 cl HPB.out (by simp) (by simp) h2)
  go_wp2_with fail
  refine HC1.out.mono ?_
  clear HC1 HFF
  rintro e w2 ⟨rfl, sv2, hb2, hw2⟩
  have HP2 := Lib.hid hb2
  have HW2 := Lib.hid hw2
  clear hb2 hw2
  have HC2 := Lib.hid (fixed16 me HP2.out (by have := HW2.out.size; simp at this; omega) (by simp [be_len]) h3)
  go_wp2_with fail
  refine HC2.out.mono ?_
  clear HC2
  rintro e w3 ⟨rfl, sv3, hb3, hw3⟩
  have HP3 := Lib.hid hb3
  have HW3 := Lib.hid (HW2.out.trans hw3)
  clear hb3 hw3
  have hfb : Blk w3 fb 67 #[.int .u16 ch, .int .u16 cl, .int .u16 me, .iface T (.pointer (some ⟨g, 0, none⟩))] := HW3.out.blk HF1.out (by have := HF.out.lt; omega) (by simp [Value.ownBlock])
  have m3 : w3.cell? ⟨fb, 3, none⟩ = some (.iface T (.pointer (some ⟨g, 0, none⟩))) := by rw [hfb.cell]; rfl
  have HF3 := Lib.hid hfb
  clear hfb
  have HD3 := Lib.hid ((HD.out.trans (((Below.refl _ _).alloc (Nat.le_refl _) (.cells #[.slice none 0 0] 281)).mono HD.out.size)).trans (HW3.out.below (B := w0.heap.size) (by have := HD.out.size; omega) (by simp [Value.ownBlock]) (by have := HD.out.size; simp; omega)))
  have HS3 := Lib.hid HW3.out.size
  have HC3 := Lib.hid (HM.out.write w3 w.heap.size w.heap.size sv3 _ HD3.out HD.out.size HP3.out (by have := HS3.out; simp at this; omega) (by simp [be_len]))
  go_wp2_with fail
  refine HC3.out.mono ?_
  clear HC3
  rintro e w4 ⟨rfl, sv4, hb4, hw4⟩
  have HP4 := Lib.hid hb4
  have HW4 := Lib.hid (HW3.out.trans hw4)
  clear hb4 hw4
  have hfb : Blk w4 fb 67 #[.int .u16 ch, .int .u16 cl, .int .u16 me, .iface T (.pointer (some ⟨g, 0, none⟩))] := HW4.out.blk HF1.out (by have := HF.out.lt; omega) (by simp [Value.ownBlock])
  have m0 : w4.cell? ⟨fb, 0, none⟩ = some (.int .u16 ch) := by rw [hfb.cell]; rfl
  have HB4 := Lib.hid ((HB.out.alloc (.cells #[.slice none 0 0] 281)).wr HW4.out (by have := HB.out.lt; omega) (by simp [Value.ownBlock]) (fun k hk => ⟨by have := (HB.out.row_lt k hk).2; omega, by simp [Value.ownBlock]⟩))
  have HWB := Lib.hid (Wr.ofBelow (bb := bb) (((Below.refl w.heap.size w).alloc (Nat.le_refl _) (.cells #[.slice none 0 0] 281)).trans (HW4.out.below (B := w.heap.size) (Nat.le_refl _) (by simp [Value.ownBlock]) (by simp))) (Nat.le_refl _) sv.ownBlock)
  have HBy := Lib.hid (bytes_any HP4.out.drew)
  have HWF := Lib.hid (writeFrame_any (w := w4.drew) 1 ch HB4.out.drew HP4.out.drew.rb (by have := HWB.out.size; show B ≤ w4.heap.size; omega) (by simp [be_len]; omega) (by omega) h1
    (fun e => by have := (HP4.out.row_lt _ e).1; have := HB.out.lt; omega) (fun k hk e => by have := (HP4.out.row_lt k hk).1; have := (HB.out.row_lt k e.symm).2; omega))
  have hne1 : fb ≠ bb := Blk.ne_ hfb HB4.out.blk (by decide)
  have hne2 := HB4.out.row_ne hfb (by decide)
  have HF4 := Lib.hid hfb
  clear hfb
  go_wp2_with fail
  go_region_held3 (fun w' => w'.cell? ⟨fb, 0, none⟩ = some (.int .u16 ch)) (first | assumption | trivial | go_keep)
    (first | (go_at_call 38; refine HBy.out.mono ?_; rintro e wz ⟨rfl, rfl⟩) | (go_at_call 64; refine HWF.out.mono ?_; rintro e w5 ⟨rfl, sv5, hb5, hw5⟩; have hk : w5.cell? ⟨fb, 0, none⟩ = some (.int .u16 ch) := by rw [(hw5.blk HF4.out.drew hne1 hne2).cell]; rfl))
  go_wp2
  go_ret
  refine ⟨rfl, sv5, ?_, HWB.out.drew.trans hw5⟩
  simpa [List.append_assoc] using hb5

@[go_sem] theorem meth_mfwrite (a : Addr) (w : World) : (method 480 65 (.pointer (some a)) "amqp091/pub/amqp091.write").run Tryz.prog w = .ok (61, .pointer (some a)) w := by kernel_rfl
@[go_sem] theorem ahead_mfwrite (a : Addr) (w : World) : (nilAhead 480 65 (.pointer (some a)) "amqp091/pub/amqp091.write").run Tryz.prog w = .ok (some false) w := by kernel_rfl

set_option maxHeartbeats 1000000 in
/-- (*writer).WriteFrame, at a method's frame -/
theorem WriteFrame_mf {B bb fb wb : Nat} {sv : Value} {xs ys : List UInt8} {w0 w : World} {T : TypeId} {g fi fw cl me : Nat} (ch : Nat) (hM : MsgAt w0 T g fi fw cl me ys) (h0 : Below w0.heap.size w0 w) (hb : Buf w B 281 bb sv xs)
    (hf : Blk w fb 67 #[.int .u16 ch, .int .u16 cl, .int .u16 me, .iface T (.pointer (some ⟨g, 0, none⟩))]) (hwr : Blk w wb 286 #[.iface 279 (.pointer (some ⟨bb, 0, none⟩))]) (hB : B ≤ w.heap.size)
    (hn : xs.length + ys.length ≤ 140737488300000) (h1 : ch < 65536) (h2 : cl < 65536) (h3 : me < 65536) :
    Calls Tryz.prog 37 #[.pointer (some ⟨wb, 0, none⟩), .iface 65 (.pointer (some ⟨fb, 0, none⟩))] w fun e w' => e = .returned .nilIface ∧
      ∃ sv', Buf w' B 281 bb sv' (xs ++ (fhead 1 ch (be cl 2 ++ (be me 2 ++ ys)).length ++ (be cl 2 ++ (be me 2 ++ ys)) ++ [206])) ∧ Wr w w' bb sv.ownBlock sv'.ownBlock := by
  have hc := hwr.cell0
  have hne1 : wb ≠ bb := Blk.ne_ hwr hb.blk (by decide)
  have hne2 := hb.row_ne hwr (by decide)
  have HC := Lib.hid (mfwrite_any (w := w.drew) ch hM h0.drew hb.drew hf.drew hB hn h1 h2 h3)
  have HW := Lib.hid hwr
  clear hM h0 hb hf hwr
  go_enter Tryz.func37, Tryz.ntmps37
  go_wp2_with fail
  go_region_held3 (fun w' => w'.cell? ⟨wb, 0, none⟩ = some (.iface 279 (.pointer (some ⟨bb, 0, none⟩)))) (first | assumption | go_keep)
    (first | (go_at_call 61; refine HC.out.mono ?_; rintro e w1 ⟨rfl, sv1, hb1, hw1⟩; have hk := (hw1.blk HW.out.drew hne1 hne2).cell0))
  go_wp2
  go_ret
  exact ⟨rfl, sv1, hb1, ⟨hw1.os, hw1.tape, hw1.output, hw1.size, hw1.block, hw1.row⟩⟩

/-- ZZWriteFrame, at a method's frame -/
theorem ZZWriteFrame_mf {fb : Nat} {ys : List UInt8} {w0 w : World} {T : TypeId} {g fi fw cl me : Nat} (ch : Nat) (hM : MsgAt w0 T g fi fw cl me ys) (h0 : Below w0.heap.size w0 w)
    (hf : Blk w fb 67 #[.int .u16 ch, .int .u16 cl, .int .u16 me, .iface T (.pointer (some ⟨g, 0, none⟩))]) (hn : ys.length ≤ 140737488200000) (h1 : ch < 65536) (h2 : cl < 65536) (h3 : me < 65536) :
    Calls Tryz.prog 30 #[.iface 65 (.pointer (some ⟨fb, 0, none⟩))] w fun e w' => ∃ sv, e = .returned (.tuple #[sv, .nilIface]) ∧
      Own w' w.heap.size sv (fhead 1 ch (be cl 2 ++ (be me 2 ++ ys)).length ++ (be cl 2 ++ (be me 2 ++ ys)) ++ [206]) ∧ Below w.heap.size w w' := by
  have hbuf := Buf.new w (B := w.heap.size) 281 (by decide) (Nat.le_refl _)
  have hbuf2 := hbuf.alloc (.cells #[.iface 279 (.pointer (some ⟨w.heap.size, 0, none⟩))] 286)
  have hwb := Blk.new (w.alloc (.cells #[.slice none 0 0] 281)) 286 #[.iface 279 (.pointer (some ⟨w.heap.size, 0, none⟩))]
  have hlt := hf.lt
  have HC := Lib.hid (WriteFrame_mf ch hM (h0.trans ((((Below.refl w.heap.size w).alloc (Nat.le_refl _) (.cells #[.slice none 0 0] 281)).alloc (by simp) (.cells #[.iface 279 (.pointer (some ⟨w.heap.size, 0, none⟩))] 286)).mono h0.size)) hbuf2 ((hf.alloc _).alloc _) (by simpa using hwb) (by simp; omega) (by simp; omega) h1 h2 h3)
  clear hM h0 hf hbuf hbuf2 hwb
  go_enter Tryz.func30, Tryz.ntmps30
  go_wp2_with fail
  refine HC.out.mono ?_
  rintro e w1 ⟨rfl, sv1, hb1, hw1⟩
  go_wp2_with fail
  refine (bytes_any hb1).mono ?_
  rintro e w2 ⟨rfl, rfl⟩
  go_wp2
  go_ret2
  exact ⟨_, rfl, by simpa using hb1.isOwn, ((((Below.refl _ _).alloc (Nat.le_refl _) _).alloc (by simp) _)).trans (hw1.below (Nat.le_refl _) (by simp [Value.ownBlock]) (by simp; omega))⟩

end Go.Proofs.YtabeppaehenefaaGreat
