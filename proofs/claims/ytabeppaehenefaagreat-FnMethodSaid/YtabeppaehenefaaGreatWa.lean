/-
  The buffer's methods, and the frames' writers down to the heartbeat.
-/
import Derived.Test.YtabeppaehenefaaGreatProg
import Derived.Test.YtabeppaehenefaaGreatMem
import Derived.KernelRfl
import Derived.WalkLawsBesides
import Derived.WalkSpells
import Derived.Lib.Hide
namespace Go.Proofs.YtabeppaehenefaaGreat
open Go.RowKit

theorem info5 : (Tryz.prog.info? 5).map (fun i => (i.zero, i.size, i.bytes)) = some (some (.int .u8 0), 1, 1) := by kernel_rfl

set_option maxHeartbeats 400000 in
/-- (*Buffer).Write -/
theorem write_any {B bb : Nat} {sv pv : Value} {xs ys : List UInt8} {w : World} (hb : Buf w B 281 bb sv xs) (hp : Rb w w.heap.size pv ys) (hB : B ≤ w.heap.size)
    (hn : xs.length + ys.length ≤ 140737488355328) :
    Calls Tryz.prog 361 #[.pointer (some ⟨bb, 0, none⟩), pv] w fun e w' => e = .returned (.tuple #[.int .i64 ys.length, .nilIface]) ∧
      ∃ sv', Buf w' B 281 bb sv' (xs ++ ys) ∧ Wr w w' bb sv.ownBlock sv'.ownBlock := by
  obtain ⟨i0, hi, hz0, hz1, hz2⟩ := info_parts info5
  have hc := hb.cell
  have hf := hb.frozen
  have hsrc := hp.src (P := Tryz.prog) Tryz.underlying32
  obtain ⟨A, c, hpv, _⟩ := hp
  subst hpv
  go_enter Tryz.func361, Tryz.ntmps361
  go_wp2_with (at_builtin; refine wpList_append_src _ rfl (.tmp 10) (.tmp 11) 32 32 rfl B 5 i0 (.int .u8 0) 1 1 Tryz.underlying32 hi hz0 hz1 hz2 rfl sv xs.length (bcells xs) rfl hb.own _ ys.length (bcells ys) rfl hsrc (by unfold maxLen; omega) (by omega) hB ?_)
  intro sv' w1 hown hg hat
  have hfin := hb.appended hown hg hat
  have hc1 := (hb.blk_grown hg).cell0
  have hf1 := (hb.blk_grown hg).frozen 0
  obtain ⟨A', c', rfl⟩ := own_shape hown
  go_wp2
  go_ret2
  exact ⟨rfl, _, hfin⟩

/-- (*Buffer).Bytes -/
theorem bytes_any {B bb : Nat} {sv : Value} {xs : List UInt8} {w : World} (hb : Buf w B 281 bb sv xs) :
    Calls Tryz.prog 38 #[.pointer (some ⟨bb, 0, none⟩)] w fun e w' => e = .returned sv ∧ w = w' := by
  have hc := hb.cell
  have hf := hb.frozen
  obtain ⟨A, c, rfl⟩ := hb.shape
  go_enter Tryz.func38, Tryz.ntmps38
  go_wp2
  go_ret
  exact ⟨rfl, rfl⟩

/-- (*Buffer).Len -/
theorem len_any {B bb : Nat} {sv : Value} {xs : List UInt8} {w : World} (hb : Buf w B 281 bb sv xs) :
    Calls Tryz.prog 81 #[.pointer (some ⟨bb, 0, none⟩)] w fun e w' => e = .returned (.int .i64 xs.length) ∧ w = w' := by
  have hc := hb.cell
  have hf := hb.frozen
  obtain ⟨A, c, rfl⟩ := hb.shape
  go_enter Tryz.func81, Tryz.ntmps81
  go_wp2
  go_ret
  exact ⟨rfl, rfl⟩

@[go_sem] theorem meth_write (a : Addr) (w : World) : (method 480 279 (.pointer (some a)) "Write").run Tryz.prog w = .ok (361, .pointer (some a)) w := by kernel_rfl

theorem and_shift (n k : Nat) : (n &&& (255 <<< k)) / 2 ^ k % 256 = n / 2 ^ k % 256 := by
  rw [← Nat.shiftRight_eq_div_pow, ← Nat.shiftRight_eq_div_pow, Nat.shiftRight_and_distrib, Nat.shiftLeft_shiftRight]
  have := Nat.and_two_pow_sub_one_eq_mod (n >>> k) 8
  simp only [Nat.reducePow, Nat.add_one_sub_one] at this
  rw [this]
  omega
theorem b16_hi (n : Nat) (h : n < 65536) : bits .and .u16 (n : Int) 65280 / 256 % 256 = ((n / 256 % 256 : Nat) : Int) := by
  have := (bits_nat .u16 16 (by decide) (fun n a b => by rw [IntKind.wrap_u16]; omega) n 65280 (by omega) (by omega)).1
  have e : ((65280 : Nat) : Int) = 65280 := rfl
  rw [e] at this
  rw [this]
  have := and_shift n 8
  simp only [Nat.reduceShiftLeft, Nat.reducePow] at this
  omega
theorem b16_lo (n : Nat) (h : n < 65536) : bits .and .u16 (n : Int) 255 % 256 = ((n % 256 : Nat) : Int) := by
  have := (bits_nat .u16 16 (by decide) (fun n a b => by rw [IntKind.wrap_u16]; omega) n 255 (by omega) (by omega)).1
  have e : ((255 : Nat) : Int) = 255 := rfl
  rw [e] at this
  rw [this]
  have := and_shift n 0
  simp only [Nat.reduceShiftLeft, Nat.reducePow] at this
  omega
theorem b64_3 (n : Nat) (h : n < 18446744073709551616) : bits .and .u64 (n : Int) 4278190080 / 16777216 % 256 = ((n / 16777216 % 256 : Nat) : Int) := by
  have := bits_and_u64_nat n 4278190080 h (by omega)
  have e : ((4278190080 : Nat) : Int) = 4278190080 := rfl
  rw [e] at this
  rw [this]
  have := and_shift n 24
  simp only [Nat.reduceShiftLeft, Nat.reducePow] at this
  omega
theorem b64_2 (n : Nat) (h : n < 18446744073709551616) : bits .and .u64 (n : Int) 16711680 / 65536 % 256 = ((n / 65536 % 256 : Nat) : Int) := by
  have := bits_and_u64_nat n 16711680 h (by omega)
  have e : ((16711680 : Nat) : Int) = 16711680 := rfl
  rw [e] at this
  rw [this]
  have := and_shift n 16
  simp only [Nat.reduceShiftLeft, Nat.reducePow] at this
  omega
theorem b64_1 (n : Nat) (h : n < 18446744073709551616) : bits .and .u64 (n : Int) 65280 / 256 % 256 = ((n / 256 % 256 : Nat) : Int) := by
  have := bits_and_u64_nat n 65280 h (by omega)
  have e : ((65280 : Nat) : Int) = 65280 := rfl
  rw [e] at this
  rw [this]
  have := and_shift n 8
  simp only [Nat.reduceShiftLeft, Nat.reducePow] at this
  omega
theorem b64_0 (n : Nat) (h : n < 18446744073709551616) : bits .and .u64 (n : Int) 255 % 256 = ((n % 256 : Nat) : Int) := by
  have := bits_and_u64_nat n 255 h (by omega)
  have e : ((255 : Nat) : Int) = 255 := rfl
  rw [e] at this
  rw [this]
  have := and_shift n 0
  simp only [Nat.reduceShiftLeft, Nat.reducePow] at this
  omega

/-- the seven bytes ahead of a frame's payload -/
def fhead (typ ch n : Nat) : List UInt8 := be typ 1 ++ be ch 2 ++ be n 4
theorem fhead_len (typ ch n : Nat) : (fhead typ ch n).length = 7 := by simp [fhead, be_len]
theorem fhead_cells (typ ch n : Nat) (ht : typ < 256) (hc : ch < 65536) (hn : n < 18446744073709551616) :
    [Value.int .u8 (typ : Int), Value.int .u8 (bits .and .u16 ch 65280 / 256 % 256), Value.int .u8 (bits .and .u16 ch 255 % 256), Value.int .u8 (bits .and .u64 n 4278190080 / 16777216 % 256),
      Value.int .u8 (bits .and .u64 n 16711680 / 65536 % 256), Value.int .u8 (bits .and .u64 n 65280 / 256 % 256), Value.int .u8 (bits .and .u64 n 255 % 256)] = bcells (fhead typ ch n) := by
  rw [fhead, be1, be2, be4, b16_hi ch hc, b16_lo ch hc, b64_3 n hn, b64_2 n hn, b64_1 n hn, b64_0 n hn]
  simp only [List.cons_append, List.nil_append, bcells_cons, bcells_nil]
  rw [Nat.mod_eq_of_lt ht]

theorem end_cells : ([Value.int .u8 206] : List Value) = bcells [206] := rfl

set_option maxRecDepth 100000 in
set_option maxHeartbeats 1000000 in
/-- writeFrame -/
theorem writeFrame_any {B bb : Nat} {sv pv : Value} {xs ys : List UInt8} {w : World} (typ ch : Nat) (hb : Buf w B 281 bb sv xs) (hp : Rb w w.heap.size pv ys) (hB : B ≤ w.heap.size)
    (hn : xs.length + ys.length ≤ 140737488355000) (ht : typ < 256) (h1 : ch < 65536) (hpb : pv.ownBlock ≠ some bb) (hpr : ∀ g, pv.ownBlock = some g → some g ≠ sv.ownBlock) :
    Calls Tryz.prog 64 #[.iface 279 (.pointer (some ⟨bb, 0, none⟩)), .int .u8 typ, .int .u16 ch, pv] w fun e w' => e = .returned .nilIface ∧
      ∃ sv', Buf w' B 281 bb sv' (xs ++ (fhead typ ch ys.length ++ ys ++ [206])) ∧ Wr w w' bb sv.ownBlock sv'.ownBlock := by
  obtain ⟨A, c, hpv, _⟩ := hp.length_le
  subst hpv
  have hcells := fhead_cells typ ch ys.length ht h1 (by omega)
  have Hl := Lib.hid (fhead_len typ ch ys.length)
  have hrl := hb.row_lt
  have hbl := hb.lt
  go_enter Tryz.func64, Tryz.ntmps64
  go_wp2_with fail
  clear hcells
  have hwa : Wr w ((w.alloc (.cells #[.int .u8 206] 5)).alloc (.cells (bcells (fhead typ ch ys.length)).toArray 5)) bb sv.ownBlock sv.ownBlock := ((Wr.refl w bb _).alloc _).alloc _
  have hh : Rb ((w.alloc (.cells #[.int .u8 206] 5)).alloc (.cells (bcells (fhead typ ch ys.length)).toArray 5)) (w.heap.size + 2) (.slice (some ⟨w.heap.size + 1, 0, none⟩) 7 7) (fhead typ ch ys.length) := by
    have := Rb.of_blk (B := w.heap.size + 2) (c := 7) (Blk.new (w.alloc (.cells #[.int .u8 206] 5)) 5 (bcells (fhead typ ch ys.length)).toArray) (by simp) (by rw [Hl.out]; exact Nat.le_refl _)
    rw [Hl.out] at this
    simpa using this
  have he := (Blk.new w 5 #[.int .u8 206]).alloc (.cells (bcells (fhead typ ch ys.length)).toArray 5)
  refine (write_any ((hb.alloc _).alloc _) (by simpa using hh) (by simp; omega) (by rw [Hl.out]; omega)).mono ?_
  rintro e w1 ⟨rfl, sv1, hb1, hw1⟩
  have hA1 := hwa.trans hw1
  have hp1 := hp.wr hA1 (Nat.le_refl _) hpb hpr
  have he1 := hw1.blk he (by omega) (fun e => by have := (hrl _ e.symm).2; omega)
  have hs1 := hA1.size
  rw [Hl.out]
  go_wp2_with fail
  refine (write_any hb1 (hp1.more hs1) (by omega) (by rw [List.length_append, Hl.out]; omega)).mono ?_
  rintro e w2 ⟨rfl, sv2, hb2, hw2⟩
  have hA2 := hA1.trans hw2
  have hne1 : some w.heap.size ≠ sv1.ownBlock := hw1.ne (by simp; omega) (fun e => by have := (hrl _ e.symm).2; omega)
  have he2 := hw2.blk he1 (by omega) hne1
  have hs2 := hA2.size
  have h3 : Rb w2 w2.heap.size (.slice (some ⟨w.heap.size, 0, none⟩) 1 1) [206] := Rb.of_blk (xs := [206]) he2 he2.lt (Nat.le_refl _)
  go_wp2_with fail
  refine (write_any hb2 h3 (by omega) (by simp only [List.length_append, Hl.out, List.length_cons, List.length_nil]; omega)).mono ?_
  rintro e w3 ⟨rfl, sv3, hb3, hw3⟩
  have hA3 := hA2.trans hw3
  go_wp2
  go_ret
  refine ⟨rfl, sv3, ?_, hA3⟩
  simpa using hb3

end Go.Proofs.YtabeppaehenefaaGreat
