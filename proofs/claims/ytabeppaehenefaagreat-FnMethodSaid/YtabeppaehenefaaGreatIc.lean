/-
  The package's writer: fields of simple letters.
  The package's writer: fields with floating point numbers, decimals, times.
  The package's writer: decimals and times.
  The package's writer: strings and bytes as fields.
-/
import Derived.Test.YtabeppaehenefaaGreatIb
import Derived.Test.YtabeppaehenefaaGreatS3
import Derived.Laws.FloatArith
namespace Go.Proofs.YtabeppaehenefaaGreat
open Go.RowKit
set_option linter.unusedVariables false
attribute [local go_sem ↓] Go.wp_at_zero Go.wp_at_succ

theorem wu8 (m : Int) : IntKind.u8.wrap m = ((UInt8.ofNat (u64 m)).toNat : Int) := by
  rw [toNat_ofNat8]
  simp only [IntKind.wrap, IntKind.bits, IntKind.signed, u64]
  simp
  omega
theorem be_mod (a b : Nat) : ∀ k, k ≤ 2 → a % 65536 = b % 65536 → be a k = be b k
  | 0, _, _ => rfl
  | 1, _, h => by rw [be1, be1, ofNat8 (a := a) (b := b) (by omega)]
  | 2, _, h => by rw [be2, be2, ofNat8 (a := a) (b := b) (by omega), ofNat8 (a := a / 256) (b := b / 256) (by omega)]
  | k + 3, h, _ => by omega
theorem wu16 (m : Int) : ∃ n : Nat, IntKind.u16.wrap m = (n : Int) ∧ n < 65536 ∧ be n 2 = be (u64 m) 2 := by
  refine ⟨(m % 65536).toNat, ?_, by omega, be_mod _ _ 2 (by omega) (by unfold u64; omega)⟩
  simp only [IntKind.wrap, IntKind.bits, IntKind.signed]
  simp
  omega
theorem be_mod4 (a b : Nat) (h : a % 4294967296 = b % 4294967296) : be a 4 = be b 4 := by
  rw [be4, be4, ofNat8 (a := a) (b := b) (by omega), ofNat8 (a := a / 256) (b := b / 256) (by omega), ofNat8 (a := a / 65536) (b := b / 65536) (by omega), ofNat8 (a := a / 16777216) (b := b / 16777216) (by omega)]
theorem wu32 (m : Int) : ∃ n : Nat, IntKind.u32.wrap m = (n : Int) ∧ n < 4294967296 ∧ be n 4 = be (u64 m) 4 := by
  refine ⟨(m % 4294967296).toNat, ?_, by omega, be_mod4 _ _ (by unfold u64; omega)⟩
  simp only [IntKind.wrap, IntKind.bits, IntKind.signed]
  simp
  omega

theorem wu64 (m : Int) : ∃ n : Nat, IntKind.u64.wrap m = (n : Int) ∧ n < 18446744073709551616 ∧ n = u64 m := by
  refine ⟨u64 m, ?_, by unfold u64; omega, rfl⟩
  simp only [IntKind.wrap, IntKind.bits, IntKind.signed, u64]
  simp
  omega

def WRest (k : Int) : Prop := ∀ (m : Int) (f : Nat) (s : Int) (t : ByteArray) (ks : Vs) (fs : Fs) (x : Value) (B bb : Nat) (sv : Value) (xs : List UInt8) (w : World),
  AnyS k m f s t x → (V.mk k m f s t ks fs).good → (V.mk k m f s t ks fs).ok → Buf w B 281 bb sv xs → B ≤ w.heap.size → xs.length ≤ 200000 →
  Calls Tryz.prog 78 #[.iface 279 (.pointer (some ⟨bb, 0, none⟩)), x] w (Gave w B bb sv xs (V.mk k m f s t ks fs).enc)


set_option maxRecDepth 100000 in
set_option maxHeartbeats 4000000 in
theorem wf_98 : WRest 98 := by
  intro m f s t ks fs x B bb sv xs w hx hgood hok hb hB hxs
  obtain rfl : x = .iface 289 (.int .i8 m) := by simpa [AnyS] using hx
  have hw8 := wu8 m
  generalize hbb : UInt8.ofNat (u64 m) = b at hw8
  have Hb := Lib.hid hbb
  clear hbb
  clear hx hgood hok
  go_enter Tryz.func78, Tryz.ntmps78
  go_wp2_with fail
  have hrb : Rb (w.alloc (.cells #[.int .u8 98, .int .u8 b.toNat, .int .u8 0, .int .u8 0, .int .u8 0, .int .u8 0, .int .u8 0, .int .u8 0, .int .u8 0] 339)) (w.heap.size + 1) (.slice (some ⟨w.heap.size, 0, none⟩) 2 9) [98, b] := Rb.pre (n := 2) (Blk.new w 339 _) (by omega) rfl (by omega) rfl
  refine (write_any (ys := [98, b]) (hb.alloc _) (by simpa using hrb) (by simp; omega) (by simp; omega)).mono ?_
  rintro e w2 ⟨rfl, sv2, hb2, hw2⟩
  go_wp2
  go_ret
  refine ⟨rfl, sv2, ?_, ((Wr.refl _ _ _).alloc _).trans hw2⟩
  have := Hb.out
  simpa [V.enc, be1, this] using hb2


set_option maxRecDepth 100000 in
set_option maxHeartbeats 4000000 in
theorem wf_66 : WRest 66 := by
  intro m f s t ks fs x B bb sv xs w hx hgood hok hb hB hxs
  obtain rfl : x = .iface 5 (.int .u8 m) := by simpa [AnyS] using hx
  have h0 : 0 ≤ m ∧ m ≤ 255 := by
    rw [V.good] at hgood
    rcases hgood.2 with h | ⟨h, _⟩ | ⟨h, _⟩
    · simpa [Simple] using h
    · exact absurd h (by decide)
    · exact absurd h (by decide)
  obtain ⟨b, hbm, hbb⟩ : ∃ b : UInt8, m = (b.toNat : Int) ∧ UInt8.ofNat (u64 m) = b := by
    refine ⟨UInt8.ofNat (u64 m), ?_, rfl⟩
    rw [toNat_ofNat8]
    unfold u64
    omega
  have Hb := Lib.hid hbb
  clear hbb h0
  subst hbm
  clear hx hgood hok
  go_enter Tryz.func78, Tryz.ntmps78
  go_wp2_with fail
  have hrb : Rb (w.alloc (.cells #[.int .u8 66, .int .u8 b.toNat, .int .u8 0, .int .u8 0, .int .u8 0, .int .u8 0, .int .u8 0, .int .u8 0, .int .u8 0] 339)) (w.heap.size + 1) (.slice (some ⟨w.heap.size, 0, none⟩) 2 9) [66, b] := Rb.pre (n := 2) (Blk.new w 339 _) (by omega) rfl (by omega) rfl
  refine (write_any (ys := [66, b]) (hb.alloc _) (by simpa using hrb) (by simp; omega) (by simp; omega)).mono ?_
  rintro e w2 ⟨rfl, sv2, hb2, hw2⟩
  go_wp2
  go_ret
  refine ⟨rfl, sv2, ?_, ((Wr.refl _ _ _).alloc _).trans hw2⟩
  have := Hb.out
  simpa [V.enc, be1, this] using hb2


set_option maxRecDepth 100000 in
set_option maxHeartbeats 4000000 in
theorem wf_115 : WRest 115 := by
  intro m f s t ks fs x B bb sv xs w hx hgood hok hb hB hxs
  obtain rfl : x = .iface 290 (.int .i16 m) := by simpa [AnyS] using hx
  obtain ⟨n, hw, hn, hbe⟩ := wu16 m
  have Hb := Lib.hid hbe
  have hcall := arr16 (w := w) 115 n hn
  have HC := Lib.hid hcall
  clear hbe hcall
  clear hx hgood hok
  go_enter Tryz.func78, Tryz.ntmps78
  go_wp2_with fail
  refine HC.out.mono ?_
  rintro e w1 ⟨rfl, cs, hk, hcs, hsz, hbel, hs1⟩
  have hb1 := hb.belowAll hbel
  have hrb : Rb w1 w1.heap.size (.slice (some ⟨w.heap.size, 0, none⟩) 3 9) (115 :: be n 2) := Rb.pre hk (by omega) (by simp [be_len]) (by omega) (by
    have hl : (Value.int .u8 115 :: bcells (be n 2)).length = 3 := by simp [bcells_length, be_len]
    rw [hl] at hcs
    exact hcs)
  clear hcs hsz
  go_wp2_with fail
  refine (write_any hb1 hrb (by omega) (by simp [be_len]; omega)).mono ?_
  rintro e w2 ⟨rfl, sv2, hb2, hw2⟩
  go_wp2
  go_ret
  refine ⟨rfl, sv2, ?_, (Wr.ofBelow hbel (Nat.le_refl _) _).trans hw2⟩
  have := Hb.out
  simpa [V.enc, this] using hb2


set_option maxRecDepth 100000 in
set_option maxHeartbeats 4000000 in
theorem wf_73 : WRest 73 := by
  intro m f s t ks fs x B bb sv xs w hx hgood hok hb hB hxs
  obtain rfl : x = .iface 21 (.int .i32 m) := by simpa [AnyS] using hx
  obtain ⟨n, hw, hn, hbe⟩ := wu32 m
  have Hb := Lib.hid hbe
  have hcall := arr32 (w := w) 73 n hn
  have HC := Lib.hid hcall
  clear hbe hcall
  clear hx hgood hok
  go_enter Tryz.func78, Tryz.ntmps78
  go_wp2_with fail
  refine HC.out.mono ?_
  rintro e w1 ⟨rfl, cs, hk, hcs, hsz, hbel, hs1⟩
  have hb1 := hb.belowAll hbel
  have hrb : Rb w1 w1.heap.size (.slice (some ⟨w.heap.size, 0, none⟩) 5 9) (73 :: be n 4) := Rb.pre hk (by omega) (by simp [be_len]) (by omega) (by
    have hl : (Value.int .u8 73 :: bcells (be n 4)).length = 5 := by simp [bcells_length, be_len]
    rw [hl] at hcs
    exact hcs)
  clear hcs hsz
  go_wp2_with fail
  refine (write_any hb1 hrb (by omega) (by simp [be_len]; omega)).mono ?_
  rintro e w2 ⟨rfl, sv2, hb2, hw2⟩
  go_wp2
  go_ret
  refine ⟨rfl, sv2, ?_, (Wr.ofBelow hbel (Nat.le_refl _) _).trans hw2⟩
  have := Hb.out
  simpa [V.enc, this] using hb2


set_option maxRecDepth 100000 in
set_option maxHeartbeats 4000000 in
theorem wf_108 : WRest 108 := by
  intro m f s t ks fs x B bb sv xs w hx hgood hok hb hB hxs
  obtain rfl : x = .iface 2 (.int .i64 m) := by simpa [AnyS] using hx
  obtain ⟨n, hw, hn, hbe⟩ := wu64 m
  have Hb := Lib.hid hbe
  have hcall := arr64 (w := w) 108 n hn
  have HC := Lib.hid hcall
  clear hbe hcall
  clear hx hgood hok
  go_enter Tryz.func78, Tryz.ntmps78
  go_wp2_with fail
  refine HC.out.mono ?_
  rintro e w1 ⟨rfl, cs, hk, hcs, hsz, hbel, hs1⟩
  have hb1 := hb.belowAll hbel
  have hrb : Rb w1 w1.heap.size (.slice (some ⟨w.heap.size, 0, none⟩) 9 9) (108 :: be n 8) := Rb.pre hk (by omega) (by simp [be_len]) (by omega) (by
    have hl : (Value.int .u8 108 :: bcells (be n 8)).length = 9 := by simp [bcells_length, be_len]
    rw [hl] at hcs
    exact hcs)
  clear hcs hsz
  go_wp2_with fail
  refine (write_any hb1 hrb (by omega) (by simp [be_len]; omega)).mono ?_
  rintro e w2 ⟨rfl, sv2, hb2, hw2⟩
  go_wp2
  go_ret
  refine ⟨rfl, sv2, ?_, (Wr.ofBelow hbel (Nat.le_refl _) _).trans hw2⟩
  have := Hb.out
  subst this
  simpa [V.enc] using hb2


set_option maxRecDepth 100000 in
set_option maxHeartbeats 4000000 in
theorem wf_86 : WRest 86 := by
  intro m f s t ks fs x B bb sv xs w hx hgood hok hb hB hxs
  obtain rfl : x = .nilIface := by simpa [AnyS] using hx
  clear hx hgood hok
  go_enter Tryz.func78, Tryz.ntmps78
  go_wp2_with fail
  have hrb : Rb (w.alloc (.cells (arr9 86) 339)) (w.heap.size + 1) (.slice (some ⟨w.heap.size, 0, none⟩) 1 9) [86] := Rb.pre (n := 1) (Blk.new w 339 _) (by omega) rfl (by omega) rfl
  refine (write_any (ys := [86]) (hb.alloc _) (by simpa using hrb) (by simp; omega) (by simp; omega)).mono ?_
  rintro e w2 ⟨rfl, sv2, hb2, hw2⟩
  go_wp2
  go_ret
  refine ⟨rfl, sv2, ?_, ((Wr.refl _ _ _).alloc _).trans hw2⟩
  simpa [V.enc] using hb2


set_option maxRecDepth 100000 in
set_option maxHeartbeats 4000000 in
theorem wf_116_true {B bb : Nat} {sv : Value} {xs : List UInt8} {w : World} (hb : Buf w B 281 bb sv xs) (hB : B ≤ w.heap.size) (hxs : xs.length ≤ 200000) :
    Calls Tryz.prog 78 #[.iface 279 (.pointer (some ⟨bb, 0, none⟩)), .iface 4 (.bool true)] w (Gave w B bb sv xs [116, 1]) := by
  go_enter Tryz.func78, Tryz.ntmps78
  go_wp2_with fail
  have hrb : Rb (w.alloc (.cells #[.int .u8 116, .int .u8 1, .int .u8 0, .int .u8 0, .int .u8 0, .int .u8 0, .int .u8 0, .int .u8 0, .int .u8 0] 339)) (w.heap.size + 1) (.slice (some ⟨w.heap.size, 0, none⟩) 2 9) [116, 1] := Rb.pre (n := 2) (Blk.new w 339 _) (by omega) rfl (by omega) rfl
  refine (write_any (ys := [116, 1]) (hb.alloc _) (by simpa using hrb) (by simp; omega) (by simp; omega)).mono ?_
  rintro e w2 ⟨rfl, sv2, hb2, hw2⟩
  go_wp2
  go_ret
  exact ⟨rfl, sv2, hb2, ((Wr.refl _ _ _).alloc _).trans hw2⟩

set_option maxRecDepth 100000 in
set_option maxHeartbeats 4000000 in
theorem wf_116_false {B bb : Nat} {sv : Value} {xs : List UInt8} {w : World} (hb : Buf w B 281 bb sv xs) (hB : B ≤ w.heap.size) (hxs : xs.length ≤ 200000) :
    Calls Tryz.prog 78 #[.iface 279 (.pointer (some ⟨bb, 0, none⟩)), .iface 4 (.bool false)] w (Gave w B bb sv xs [116, 0]) := by
  go_enter Tryz.func78, Tryz.ntmps78
  go_wp2_with fail
  have hrb : Rb (w.alloc (.cells #[.int .u8 116, .int .u8 0, .int .u8 0, .int .u8 0, .int .u8 0, .int .u8 0, .int .u8 0, .int .u8 0, .int .u8 0] 339)) (w.heap.size + 1) (.slice (some ⟨w.heap.size, 0, none⟩) 2 9) [116, 0] := Rb.pre (n := 2) (Blk.new w 339 _) (by omega) rfl (by omega) rfl
  refine (write_any (ys := [116, 0]) (hb.alloc _) (by simpa using hrb) (by simp; omega) (by simp; omega)).mono ?_
  rintro e w2 ⟨rfl, sv2, hb2, hw2⟩
  go_wp2
  go_ret
  exact ⟨rfl, sv2, hb2, ((Wr.refl _ _ _).alloc _).trans hw2⟩

theorem wf_116 : WRest 116 := by
  intro m f s t ks fs x B bb sv xs w hx hgood hok hb hB hxs
  obtain ⟨b, rfl, rfl⟩ : ∃ b : Bool, m = (if b = true then 1 else 0) ∧ x = .iface 4 (.bool b) := by simpa [AnyS] using hx
  cases b
  · have := wf_116_false hb hB hxs
    simpa [V.enc, be1, u64] using this
  · have := wf_116_true hb hB hxs
    simpa [V.enc, be1, u64] using this

end Go.Proofs.YtabeppaehenefaaGreat

namespace Go.Proofs.YtabeppaehenefaaGreat
open Go.RowKit
set_option linter.unusedVariables false
attribute [local go_sem ↓] Go.wp_at_zero Go.wp_at_succ

/-- a block behind the store of a number -/
def ArrG (w : World) (g : Nat) (t : TypeId) (cs : Array Value) (e : Ending) (w' : World) : Prop :=
  e = .returned (.tuple #[]) ∧ Blk w' g t cs ∧ (∀ B, B ≤ g → Below B w w') ∧ w'.heap.size = w.heap.size

theorem arrG32 {w : World} {g : Nat} {t : TypeId} (pre l : List Value) (a b c d : Int) (o m cap : Nat) (n : Nat) (hn : n < 4294967296) (hm : 4 ≤ m) (ho : pre.length = o)
    (hb : Blk w g t (pre ++ (Value.int .u8 a :: Value.int .u8 b :: Value.int .u8 c :: Value.int .u8 d :: l)).toArray) :
    Calls Tryz.prog 66 #[.slice (some ⟨g, o, none⟩) m cap, .int .u32 n] w (ArrG w g t (pre ++ bcells (be n 4) ++ l).toArray) := by
  subst ho
  refine (put32_any (c := cap) n hb hn hm a b c d (by simp) (by simp) (by simp) (by simp)).mono ?_
  rintro e w1 ⟨rfl, hw⟩
  have hk := hb.put4 pre.length n
  rw [put4a_zero] at hk
  rw [← hw] at hk
  refine ⟨rfl, hk, fun B hB => ?_, ?_⟩
  · rw [hw]; exact below_put4 (Below.refl _ _) hB
  · rw [hw]; exact size_put4 _ _ _ _

theorem arrG64 {w : World} {g : Nat} {t : TypeId} (k : Int) (cap : Nat) (hcap : 8 ≤ cap) (n : Nat) (hn : n < 18446744073709551616)
    (hb : Blk w g t (arr9 k)) :
    Calls Tryz.prog 67 #[.slice (some ⟨g, 1, none⟩) 8 cap, .int .u64 n] w (ArrG w g t (.int .u8 k :: bcells (be n 8)).toArray) := by
  refine (put64_any (o := 1) (c := cap) n hb hn hcap 0 0 0 0 0 0 0 0 rfl rfl rfl rfl rfl rfl rfl rfl).mono ?_
  rintro e w1 ⟨rfl, hw⟩
  have hk := (hb.put4 1 (n / 4294967296)).put4 (1 + 4) (n % 4294967296)
  rw [cells64] at hk
  rw [← hw] at hk
  refine ⟨rfl, hk, fun B hB => ?_, ?_⟩
  · rw [hw]; exact below_put4 (below_put4 (Below.refl _ _) hB) hB
  · rw [hw, size_put4, size_put4]

theorem f32_lt (f : Nat) : f32 f < 4294967296 :=
  Nat.lt_of_lt_of_le (Go.FloatKind.f32.format.write_lt (Go.FloatKind.f64.decode f)) (by decide)

set_option maxRecDepth 100000 in
set_option maxHeartbeats 4000000 in
theorem wf_102 : WRest 102 := by
  intro m f s t ks fs x B bb sv xs w hx hgood hok hb hB hxs
  obtain rfl : x = .iface 291 (.float .f32 (f32 f)) := by simpa [AnyS] using hx
  have hlt : f32 f < 4294967296 := f32_lt f
  have hb32 := fun w => bits32 (f32 f) w
  generalize hg : f32 f = n at hb32 hlt
  have Hg := Lib.hid hg
  have hcall := arrG32 (w := (w.alloc (.cells (arr9 102) 339)).drew) [.int .u8 102] [.int .u8 0, .int .u8 0, .int .u8 0, .int .u8 0] 0 0 0 0 1 4 8 n hlt (by omega) rfl (Blk.new w 339 (arr9 102)).drew
  have HC := Lib.hid hcall
  clear hg hx hgood hok hcall
  go_enter Tryz.func78, Tryz.ntmps78
  go_wp2_with fail
  go_region_with (refine HC.out.mono ?_; rintro e w1 ⟨rfl, hk, hbl, hsz⟩)
  all_goals
    have hbel : Below w.heap.size w w1 := ((Below.refl _ _).alloc (Nat.le_refl _) _).drew.trans (hbl _ (Nat.le_refl _))
    have hs1 : w1.heap.size = w.heap.size + 1 := by rw [hsz]; simp
    have hb1 := hb.belowAll hbel
    have hrb : Rb w1 w1.heap.size (.slice (some ⟨w.heap.size, 0, none⟩) 5 9) (102 :: be n 4) := Rb.pre hk (by omega) (by simp [be_len]) (by omega) (by
      have hl : (bcells (102 :: be n 4)).length = 5 := by simp [bcells_length, be_len]
      have := List.take_left (l₁ := bcells (102 :: be n 4)) (l₂ := [.int .u8 0, .int .u8 0, .int .u8 0, .int .u8 0])
      rw [hl] at this
      exact this)
    clear hbl hsz hk
    go_wp2_with fail
    refine (write_any hb1 hrb (by omega) (by simp [be_len]; omega)).mono ?_
    rintro e w2 ⟨rfl, sv2, hb2, hw2⟩
    go_wp2
    go_ret
    refine ⟨rfl, sv2, ?_, (Wr.ofBelow hbel (Nat.le_refl _) _).trans hw2⟩
    have := Hg.out
    simpa [V.enc, this] using hb2

set_option maxRecDepth 100000 in
set_option maxHeartbeats 4000000 in
theorem wf_100 : WRest 100 := by
  intro m f s t ks fs x B bb sv xs w hx hgood hok hb hB hxs
  obtain rfl : x = .iface 89 (.float .f64 f) := by simpa [AnyS] using hx
  rw [V.ok] at hok
  have hlt : f < 18446744073709551616 := hok.2.2.1
  have hb64 := fun w => bits64 f w
  have hcall := arrG64 (w := (w.alloc (.cells (arr9 100) 339)).drew) (g := w.heap.size) 100 8 (by omega) f hlt (Blk.new w 339 (arr9 100)).drew
  have HC := Lib.hid hcall
  clear hx hgood hok hcall
  go_enter Tryz.func78, Tryz.ntmps78
  go_wp2_with fail
  go_region_with (refine HC.out.mono ?_; rintro e w1 ⟨rfl, hk, hbl, hsz⟩)
  all_goals
    have hbel : Below w.heap.size w w1 := ((Below.refl _ _).alloc (Nat.le_refl _) _).drew.trans (hbl _ (Nat.le_refl _))
    have hs1 : w1.heap.size = w.heap.size + 1 := by rw [hsz]; simp
    have hb1 := hb.belowAll hbel
    have hrb : Rb w1 w1.heap.size (.slice (some ⟨w.heap.size, 0, none⟩) 9 9) (100 :: be f 8) := Rb.pre hk (by omega) (by simp [be_len]) (by omega) (by
      have hl : (bcells (100 :: be f 8)).length = 9 := by simp [bcells_length, be_len]
      have := List.take_left (l₁ := bcells (100 :: be f 8)) (l₂ := [])
      rw [hl, List.append_nil] at this
      exact this)
    clear hbl hsz hk
    go_wp2_with fail
    refine (write_any hb1 hrb (by omega) (by simp [be_len]; omega)).mono ?_
    rintro e w2 ⟨rfl, sv2, hb2, hw2⟩
    go_wp2
    go_ret
    refine ⟨rfl, sv2, ?_, (Wr.ofBelow hbel (Nat.le_refl _) _).trans hw2⟩
    simpa [V.enc] using hb2

end Go.Proofs.YtabeppaehenefaaGreat

namespace Go.Proofs.YtabeppaehenefaaGreat
open Go.RowKit
set_option linter.unusedVariables false
attribute [local go_sem ↓] Go.wp_at_zero Go.wp_at_succ

abbrev timeCells (n : Int) : Array Value := #[.int .u64 0, .int .i64 (n + 62135596800), .pointer none]

set_option maxRecDepth 100000 in
set_option maxHeartbeats 1000000 in
/-- (*Time).sec -/
theorem sec_any {w : World} {a : Nat} (k : Int) (c0 : w.cell? ⟨a, 0, none⟩ = some (.int .u64 0)) (c1 : w.cell? ⟨a, 1, none⟩ = some (.int .i64 k)) :
    Calls Tryz.prog 98 #[.pointer (some ⟨a, 0, none⟩)] w fun e w' => e = .returned (.int .i64 k) ∧ w = w' := by
  have hb : bits .and .u64 0 9223372036854775808 = 0 := by decide +kernel
  go_enter Tryz.func98, Tryz.ntmps98
  go_wp2_with fail
  go_ret
  exact ⟨rfl, rfl⟩

set_option maxRecDepth 100000 in
set_option maxHeartbeats 1000000 in
/-- (*Time).unixSec -/
theorem unixSec_any {w : World} {a : Nat} (n : Int) (h0 : 0 ≤ n) (h1 : n < 1099511627776) (c0 : w.cell? ⟨a, 0, none⟩ = some (.int .u64 0)) (c1 : w.cell? ⟨a, 1, none⟩ = some (.int .i64 (n + 62135596800))) :
    Calls Tryz.prog 86 #[.pointer (some ⟨a, 0, none⟩)] w fun e w' => e = .returned (.int .i64 n) ∧ w = w' := by
  have hs := sec_any _ c0 c1
  have HS := Lib.hid hs
  have hw : IntKind.i64.wrap (n + 62135596800 + -62135596800) = n := by
    simp only [IntKind.wrap, IntKind.bits, IntKind.signed]
    simp
    omega
  have hw2 : n + 62135596800 + -62135596800 = n := by omega
  clear hs c0 c1
  go_enter Tryz.func86, Tryz.ntmps86
  go_wp2_with fail
  refine HS.out.mono ?_
  rintro e w1 ⟨rfl, rfl⟩
  go_wp2_with fail
  go_ret
  exact ⟨by first | rfl | (congr 2; omega), rfl⟩

set_option maxRecDepth 100000 in
set_option maxHeartbeats 1000000 in
/-- (Time).Unix -/
theorem unix_any {w : World} (n : Int) (h0 : 0 ≤ n) (h1 : n < 1099511627776) :
    Calls Tryz.prog 82 #[.agg (timeCells n)] w fun e w' => e = .returned (.int .i64 n) ∧ w' = w.alloc (.cells (timeCells n) 219) := by
  have hk := Blk.new w 219 (timeCells n)
  have hs := unixSec_any (w := w.alloc (.cells (timeCells n) 219)) (a := w.heap.size) n h0 h1 (by rw [hk.cell]; rfl) (by rw [hk.cell]; rfl)
  have HS := Lib.hid hs
  clear hs
  go_enter Tryz.func82, Tryz.ntmps82
  go_wp2_with fail
  refine HS.out.mono ?_
  rintro e w1 ⟨rfl, rfl⟩
  go_wp2_with fail
  go_ret
  exact ⟨rfl, rfl⟩

set_option maxRecDepth 100000 in
set_option maxHeartbeats 1000000 in
/-- unixTime -/
theorem unixTime_any {w : World} (n : Int) (h0 : 0 ≤ n) (h1 : n < 1099511627776) :
    Calls Tryz.prog 43 #[.int .i64 n, .int .i32 0] w fun e w' => e = .returned (.agg (timeCells n)) ∧ Below w.heap.size w w' := by
  go_enter Tryz.func43, Tryz.ntmps43
  go_wp2_with fail
  exact bodyPost_ret (v := .agg (timeCells n)) (by simp [results, Tryz.results43, go_sem]) rfl ⟨rfl, (Below.refl _ _).alloc (Nat.le_refl _) _⟩

set_option maxRecDepth 100000 in
set_option maxHeartbeats 1000000 in
/-- Unix -/
theorem Unix_any {w : World} (n : Int) (h0 : 0 ≤ n) (h1 : n < 1099511627776) :
    Calls Tryz.prog 39 #[.int .i64 n, .int .i64 0] w fun e w' => e = .returned (.agg (timeCells n)) ∧ Below w.heap.size w w' := by
  go_enter Tryz.func39, Tryz.ntmps39
  go_wp2_with fail
  refine (unixTime_any n h0 h1).mono ?_
  rintro e w1 ⟨rfl, hbel⟩
  have hbel2 := ((Below.refl w.heap.size w).alloc (Nat.le_refl _) (.cells #[.int .u64 0, .int .i64 0, .pointer none] 219)).trans (hbel.mono (by simp))
  have hk := (Blk.new w 219 #[.int .u64 0, .int .i64 0, .pointer none]).below hbel (by simp)
  have c0 : w1.cell? ⟨w.heap.size, 0, none⟩ = some (.int .u64 0) := by rw [hk.cell]; rfl
  have c1 : w1.cell? ⟨w.heap.size, 1, none⟩ = some (.int .i64 0) := by rw [hk.cell]; rfl
  have c2 : w1.cell? ⟨w.heap.size, 2, none⟩ = some (.pointer none) := by rw [hk.cell]; rfl
  have fz := fun i => hk.frozen i
  have e0 : (w1.setCell ⟨w.heap.size, 0, none⟩ (.int .u64 0)).cell? ⟨w.heap.size, 0, none⟩ = some (.int .u64 0) := by rw [(hk.set_ 0 (.int .u64 0)).cell]; rfl
  have e1 : ((w1.setCell ⟨w.heap.size, 0, none⟩ (.int .u64 0)).setCell ⟨w.heap.size, 1, none⟩ (.int .i64 (n + 62135596800))).cell? ⟨w.heap.size, 1, none⟩ = some (.int .i64 (n + 62135596800)) := by
    rw [((hk.set_ 0 (.int .u64 0)).set_ 1 (.int .i64 (n + 62135596800))).cell]; rfl
  have e2 : (((w1.setCell ⟨w.heap.size, 0, none⟩ (.int .u64 0)).setCell ⟨w.heap.size, 1, none⟩ (.int .i64 (n + 62135596800))).setCell ⟨w.heap.size, 2, none⟩ (.pointer none)).cell? ⟨w.heap.size, 2, none⟩ = some (.pointer none) := by
    rw [(((hk.set_ 0 (.int .u64 0)).set_ 1 (.int .i64 (n + 62135596800))).set_ 2 (.pointer none)).cell]; rfl
  clear hk hbel
  go_wp2_with fail
  refine bodyPost_ret (v := .agg (timeCells n)) (by simp [results, Tryz.results39, go_sem, e0, e1, e2]) rfl ⟨rfl, ?_⟩
  exact ((hbel2.setCell (by simp) _).setCell (by simp) _).setCell (by simp) _

set_option maxRecDepth 100000 in
set_option maxHeartbeats 4000000 in
theorem wf_84 : WRest 84 := by
  intro m f s t ks fs x B bb sv xs w hx hgood hok hb hB hxs
  obtain rfl : x = .iface 219 (.agg (timeCells m)) := by simpa [AnyS] using hx
  have h0 : 0 ≤ m ∧ m < 1099511627776 := by
    rw [V.good] at hgood
    rcases hgood.2 with h | ⟨h, _⟩ | ⟨h, _⟩
    · simpa [Simple] using h
    · exact absurd h (by decide)
    · exact absurd h (by decide)
  obtain ⟨h0, h1⟩ := h0
  obtain ⟨n, hw, hn, hbe⟩ := wu64 m
  have Hb := Lib.hid hbe
  have hb0 : Blk (w.alloc (.cells (arr9 84) 339)) w.heap.size 339 (arr9 84) := Blk.new w 339 _
  have hu := unix_any (w := ((w.alloc (.cells (arr9 84) 339)).alloc (.cells (timeCells m) 219)).drew) m h0 h1
  have HU := Lib.hid hu
  have hcall := arrG64 (w := ((w.alloc (.cells (arr9 84) 339)).alloc (.cells (timeCells m) 219)).drew.alloc (.cells (timeCells m) 219)) (g := w.heap.size) 84 8 (by omega) n hn (((hb0.alloc _).drew).alloc _)
  have HC := Lib.hid hcall
  clear hx hgood hok hbe hb0 hu hcall
  go_enter Tryz.func78, Tryz.ntmps78
  go_wp2_with fail
  go_region_with (first
    | (go_at_call 82; refine HU.out.mono ?_; rintro e w0 ⟨rfl, rfl⟩)
    | (go_at_call 67; refine HC.out.mono ?_; rintro e w1 ⟨rfl, hk, hbl, hsz⟩))
  all_goals
    have hbel : Below w.heap.size w w1 := ((((Below.refl _ _).alloc (Nat.le_refl _) _).alloc (by simp) _).drew.alloc (by simp; omega) _).trans (hbl _ (Nat.le_refl _))
    have hs1 : w1.heap.size = w.heap.size + 3 := by rw [hsz]; simp
    have hb1 := hb.belowAll hbel
    have hrb : Rb w1 w1.heap.size (.slice (some ⟨w.heap.size, 0, none⟩) 9 9) (84 :: be n 8) := Rb.pre hk (by omega) (by simp [be_len]) (by omega) (by
      have hl : (bcells (84 :: be n 8)).length = 9 := by simp [bcells_length, be_len]
      have := List.take_left (l₁ := bcells (84 :: be n 8)) (l₂ := [])
      rw [hl, List.append_nil] at this
      exact this)
    clear hbl hsz hk
    go_wp2_with fail
    refine (write_any hb1 hrb (by omega) (by simp [be_len]; omega)).mono ?_
    rintro e w2 ⟨rfl, sv2, hb2, hw2⟩
    go_wp2
    go_ret
    refine ⟨rfl, sv2, ?_, (Wr.ofBelow hbel (Nat.le_refl _) _).trans hw2⟩
    have := Hb.out
    subst this
    simpa [V.enc] using hb2

set_option maxRecDepth 100000 in
set_option maxHeartbeats 4000000 in
theorem wf_68 : WRest 68 := by
  intro m f s t ks fs x B bb sv xs w hx hgood hok hb hB hxs
  obtain rfl : x = .iface 293 (.agg #[.int .u8 s, .int .i32 m]) := by simpa [AnyS] using hx
  have h0 : 0 ≤ s ∧ s ≤ 255 := by
    rw [V.good] at hgood
    rcases hgood.2 with h | ⟨h, _⟩ | ⟨h, _⟩
    · have : (0 ≤ s ∧ s ≤ 255) ∧ -2147483648 ≤ m ∧ m ≤ 2147483647 := by simpa [Simple] using h
      exact this.1
    · exact absurd h (by decide)
    · exact absurd h (by decide)
  obtain ⟨b, hbm, hbb⟩ : ∃ b : UInt8, s = (b.toNat : Int) ∧ be (u64 s) 1 = [b] := by
    refine ⟨UInt8.ofNat (u64 s), ?_, be1 _⟩
    rw [toNat_ofNat8]
    unfold u64
    omega
  obtain ⟨n, hw, hn, hbe⟩ := wu32 m
  have Hb := Lib.hid hbe
  have Hbb := Lib.hid hbb
  clear hbb h0 hbe
  subst hbm
  have hb0 : Blk (w.alloc (.cells #[.int .u8 68, .int .u8 b.toNat, .int .u8 0, .int .u8 0, .int .u8 0, .int .u8 0, .int .u8 0, .int .u8 0, .int .u8 0] 339)) w.heap.size 339 #[.int .u8 68, .int .u8 b.toNat, .int .u8 0, .int .u8 0, .int .u8 0, .int .u8 0, .int .u8 0, .int .u8 0, .int .u8 0] := Blk.new w 339 _
  have hcall := arrG32 (w := ((w.alloc (.cells #[.int .u8 68, .int .u8 b.toNat, .int .u8 0, .int .u8 0, .int .u8 0, .int .u8 0, .int .u8 0, .int .u8 0, .int .u8 0] 339)).alloc (.cells #[.int .u8 b.toNat, .int .i32 m] 293)).drew)
    [.int .u8 68, .int .u8 b.toNat] [.int .u8 0, .int .u8 0, .int .u8 0] 0 0 0 0 2 4 7 n hn (by omega) rfl ((hb0.alloc _).drew)
  have HC := Lib.hid hcall
  clear hx hgood hok hb0 hcall
  go_enter Tryz.func78, Tryz.ntmps78
  go_wp2_with fail
  go_region_with (refine HC.out.mono ?_; rintro e w1 ⟨rfl, hk, hbl, hsz⟩)
  all_goals
    have hbel : Below w.heap.size w w1 := (((Below.refl _ _).alloc (Nat.le_refl _) _).alloc (by simp) _).drew.trans (hbl _ (Nat.le_refl _))
    have hs1 : w1.heap.size = w.heap.size + 2 := by rw [hsz]; simp
    have hb1 := hb.belowAll hbel
    have hrb : Rb w1 w1.heap.size (.slice (some ⟨w.heap.size, 0, none⟩) 6 9) (68 :: b :: be n 4) := Rb.pre hk (by omega) (by simp [be_len]) (by omega) (by
      have hl : (bcells (68 :: b :: be n 4)).length = 6 := by simp [bcells_length, be_len]
      have := List.take_left (l₁ := bcells (68 :: b :: be n 4)) (l₂ := [.int .u8 0, .int .u8 0, .int .u8 0])
      rw [hl] at this
      exact this)
    clear hbl hsz hk
    go_wp2_with fail
    refine (write_any hb1 hrb (by omega) (by simp [be_len]; omega)).mono ?_
    rintro e w2 ⟨rfl, sv2, hb2, hw2⟩
    go_wp2
    go_ret
    refine ⟨rfl, sv2, ?_, (Wr.ofBelow hbel (Nat.le_refl _) _).trans hw2⟩
    have h1 := Hb.out
    have h2 := Hbb.out
    simpa [V.enc, h1, h2] using hb2

end Go.Proofs.YtabeppaehenefaaGreat

namespace Go.Proofs.YtabeppaehenefaaGreat
open Go.RowKit
set_option linter.unusedVariables false
attribute [local go_sem ↓] Go.wp_at_zero Go.wp_at_succ

/-- an append onto the head of an array of the call's own -/
theorem run_append_arr {w : World} {g n cap : Nat} {t : TypeId} {cur : Array Value} {xs ys : List UInt8} {x : Value} (ty : TypeId) (hb : Blk w g t cur) (hcs : cur.size = cap) (hn : xs.length = n) (hnc : n ≤ cap) (htake : cur.toList.take n = bcells xs)
    (hsrc : Src Tryz.prog 1 32 x ys.length (bcells ys) w) (hlen : n + ys.length ≤ 2000000) (hcap : cap ≤ 9) :
    ∃ A c w', (Builtin.append_ #[32, 32] ty #[.slice (some ⟨g, 0, none⟩) n cap, x]).run Tryz.prog w = .ok (.slice A (n + ys.length) c) w' ∧ Rb w' w'.heap.size (.slice A (n + ys.length) c) (xs ++ ys) ∧ Below g w w' ∧
      (∀ h, Value.ownBlock (.slice A (n + ys.length) c) = some h → g ≤ h) := by
  obtain ⟨i0, hi, hz0, hz1, hz2⟩ := info_parts info5
  have hl : (bcells ys).length = ys.length := bcells_length ys
  by_cases hroom : n + ys.length ≤ cap
  · have hst := run_storeCells_at Tryz.prog g n t (bcells ys) 0 cur w hb (by rw [hl]; omega) hsrc.one
    simp only [Nat.add_zero] at hst
    have hi' := hi
    have hr : (Builtin.append_ #[32, 32] ty #[.slice (some ⟨g, 0, none⟩) n cap, x]).run Tryz.prog w =
        .ok (.slice (some ⟨g, 0, none⟩) (n + ys.length) cap) (w.setRow g (cur.toList.take n ++ bcells ys ++ cur.toList.drop (n + (bcells ys).length)).toArray) := by
      rcases hsrc.kind with ⟨e', hk⟩ | hk <;> simp [Builtin.append_, run_underlying Tryz.underlying32, sizeOf, typeInfo, hi, hsrc.len, hroom, hz1, hsrc.cells, Addr.add_lit, hst]
    refine ⟨_, cap, _, hr, ?_, ?_, fun h hh => by simp [Value.ownBlock] at hh; omega⟩
    · have hk : Blk (w.setRow g (cur.toList.take n ++ bcells ys ++ cur.toList.drop (n + (bcells ys).length)).toArray) g t _ := setRow_heap w g cur _ t (0, 0) hb
      refine Rb.pre hk hk.lt (by simp [hn]) hroom ?_
      simp only
      rw [htake, ← bcells_append]
      have := List.take_left (l₁ := bcells (xs ++ ys)) (l₂ := cur.toList.drop (n + (bcells ys).length))
      rwa [bcells_length, List.length_append, hn] at this
    · exact ⟨rfl, rfl, rfl, by simp [World.setRow], fun k hk => setRow_other w g k _ (by omega)⟩
  · have hfc := run_firstCells_some (P := Tryz.prog) w.drew i0.size n ⟨g, 0, none⟩ n cap (bcells xs) (by rw [bcells_length, hn, hz1]; omega) (fun j v hj => by
      have hadd : (⟨g, 0, none⟩ : Addr).add j = ⟨g, j, none⟩ := by unfold Addr.add; split <;> simp_all
      rw [hadd, hb.drew.cell j, ← hj, ← htake]
      have hj' : j < n := by
        have := (List.getElem?_eq_some_iff.1 hj).1
        rwa [bcells_length, hn] at this
      rw [List.getElem?_take_of_lt hj', Array.getElem?_toList])
    have hr := run_append_grow_src (P := Tryz.prog) w 32 32 ty 5 i0 (.int .u8 0) Tryz.underlying32 hi hz0 (some ⟨g, 0, none⟩) n cap (bcells xs) hfc x ys.length (bcells ys) (by rw [hz1]; exact hsrc) (by omega) (by omega) (growslice_fits (by omega) (by rw [hz2]; omega))
    have hge := grownCap_ge w (n + ys.length) cap 5
    have hk := Blk.new w.drew 5 ((bcells xs ++ bcells ys).toArray ++ Builtin.zeroCells (Value.int .u8 0).cells (grownCap w (n + ys.length) cap 5 - (n + ys.length)))
    refine ⟨_, _, _, hr, ?_, (((Below.refl _ _).drew).alloc (by have := hb.lt; simp; omega) _), fun h hh => by simp [Value.ownBlock] at hh; have := hb.lt; omega⟩
    refine Rb.pre hk hk.lt (by simp [hn]) hge ?_
    rw [Array.toList_append, ← bcells_append]
    have := List.take_left (l₁ := bcells (xs ++ ys)) (l₂ := (Builtin.zeroCells (Value.int .u8 0).cells (grownCap w (n + ys.length) cap 5 - (n + ys.length))).toList)
    rwa [bcells_length, List.length_append, hn] at this

/-- an append whose run is known -/
theorem wpList_append_run {P : Program} {w : World} {ops : Array Oper} {rest : List Oper} {o : Oper} {a : Act} {Q : Exit → Act → World → Prop} (hgd : o.guard = none) (s x : Operand) (t tx : TypeId)
    (ho : o.op = .call { callee := .builtin .append, args := #[s, x], argTypes := #[t, tx] }) (v xv v' : Value) (w' : World) (hs : a.eval s = v) (hx : a.eval x = xv)
    (hrun : (Builtin.append_ #[t, tx] o.type #[v, xv]).run P w = .ok v' w') (h : wpList P ops Q rest (a.put o.dst v') w') : wpList P ops Q (o :: rest) a w := by
  refine wpList_plain hgd fun _ hK => ?_
  unfold Oper.wp execOp
  simp only [ho, resolve, invoke, builtin, Sem.run_bind, Sem.run_pure, Result.andThen_ok, List.map_toArray, List.map_cons, List.map_nil, hs, hx, hrun]
  exact hK _ _ h

theorem wrap32 (n : Nat) (h : n < 4294967296) : IntKind.u32.wrap (n : Int) = (n : Int) := by
  simp only [IntKind.wrap, IntKind.bits, IntKind.signed]
  simp
  omega

set_option maxRecDepth 100000 in
set_option maxHeartbeats 4000000 in
theorem wf_83 : WRest 83 := by
  intro m f s t ks fs x B bb sv xs w hx hgood hok hb hB hxs
  obtain rfl : x = .iface 9 (.string t) := by simpa [AnyS] using hx
  have ht : t.size ≤ 2000 := by rw [V.good] at hgood; exact hgood.1
  have hw := wrap32 t.size (by omega)
  have hcall := arrG32 (w := w.alloc (.cells (arr9 83) 339)) [.int .u8 83] [.int .u8 0, .int .u8 0, .int .u8 0, .int .u8 0] 0 0 0 0 1 4 8 t.size (by omega) (by omega) rfl (Blk.new w 339 (arr9 83))
  have HC := Lib.hid hcall
  clear hx hgood hok hcall
  go_enter Tryz.func78, Tryz.ntmps78
  go_wp2_with fail
  refine HC.out.mono ?_
  rintro e w1 ⟨rfl, hk, hbl, hsz⟩
  have hbel : Below w.heap.size w w1 := ((Below.refl _ _).alloc (Nat.le_refl _) _).trans (hbl _ (Nat.le_refl _))
  have hs1 : w1.heap.size = w.heap.size + 1 := by rw [hsz]; simp
  obtain ⟨c, w2, hrun, hc, hrb, hbel2, hsz2, _⟩ := conv_bytes w1 t 9 Tryz.underlying9
  have hk2 := hk.below hbel2 hk.lt
  have hl9 : ([Value.int .u8 83] ++ bcells (be t.size 4) ++ [Value.int .u8 0, .int .u8 0, .int .u8 0, .int .u8 0]).toArray.size = 9 := by simp [bcells_length, be_len]
  have hlt := size_toList t
  have hsrc := hrb.src (P := Tryz.prog) Tryz.underlying32
  rw [← hlt] at hsrc
  obtain ⟨A, c', w3, hrun3, hrb3, hbel3, _⟩ := run_append_arr (xs := 83 :: be t.size 4) (n := 5) (ys := t.data.toList) 32 hk2 hl9 (by simp [be_len]) (by omega) (by
    have hl : (bcells (83 :: be t.size 4)).length = 5 := by simp [bcells_length, be_len]
    have := List.take_left (l₁ := bcells (83 :: be t.size 4)) (l₂ := [.int .u8 0, .int .u8 0, .int .u8 0, .int .u8 0])
    rw [hl] at this
    exact this) hsrc (by omega) (by omega)
  have hbelA : Below w.heap.size w w3 := (hbel.trans (hbel2.mono (by omega))).trans hbel3
  have hb3 := hb.belowAll hbelA
  have hs3 := hbelA.size
  rw [hlt] at hrun3 hrb3
  have HR := Lib.hid hrun3
  have HS1 := Lib.hid hs1
  have HRB := Lib.hid hrb3
  clear hrb3 hrun3 hs1 hsz hsz2 hl9 hsrc hk hk2 hrb hbl hlt
  go_wp2_with (at_builtin; refine wpList_append_run rfl (.tmp 147) (.tmp 149) 32 32 rfl _ _ _ w3 rfl rfl HR.out ?_)
  refine (write_any hb3 HRB.out (by omega) (by simp [be_len]; have := size_toList t; omega)).mono ?_
  rintro e w4 ⟨rfl, sv2, hb2, hw2⟩
  go_wp2
  go_ret
  refine ⟨rfl, sv2, ?_, (Wr.ofBelow hbelA (Nat.le_refl _) _).trans hw2⟩
  simpa [V.enc] using hb2

set_option maxRecDepth 100000 in
set_option maxHeartbeats 4000000 in
/-- bytes as a field -/
theorem wf_120 (m : Int) (f : Nat) (s : Int) (t : ByteArray) (ks : Vs) (fs : Fs) {A : Option Addr} {c : Nat} {p : Nat → Prop} {B bb : Nat} {sv : Value} {xs : List UInt8} {w : World} (ht : t.size ≤ 2000) (hc : t.size ≤ c) (hR : Rd w p A (bcells t.data.toList))
    (hb : Buf w B 281 bb sv xs) (hB : B ≤ w.heap.size) (hp : ∀ g, p g → g < w.heap.size ∧ g ≠ bb ∧ some g ≠ sv.ownBlock) (hxs : xs.length ≤ 200000) :
    Calls Tryz.prog 78 #[.iface 279 (.pointer (some ⟨bb, 0, none⟩)), .iface 32 (.slice A t.size c)] w (Gave w B bb sv xs (V.mk 120 m f s t ks fs).enc) := by
  have hw := wrap32 t.size (by omega)
  have hcall := arrG32 (w := w.alloc (.cells (arr9 120) 339)) [.int .u8 120] [.int .u8 0, .int .u8 0, .int .u8 0, .int .u8 0] 0 0 0 0 1 4 8 t.size (by omega) (by omega) rfl (Blk.new w 339 (arr9 120))
  have HC := Lib.hid hcall
  have HRd := Lib.hid hR
  have HP := Lib.hid hp
  clear hcall hR hp
  go_enter Tryz.func78, Tryz.ntmps78
  go_wp2_with fail
  refine HC.out.mono ?_
  rintro e w1 ⟨rfl, hk, hbl, hsz⟩
  have hbel : Below w.heap.size w w1 := ((Below.refl _ _).alloc (Nat.le_refl _) _).trans (hbl _ (Nat.le_refl _))
  have hs1 : w1.heap.size = w.heap.size + 1 := by rw [hsz]; simp
  have hb1 := hb.belowAll hbel
  have hrb : Rb w1 w1.heap.size (.slice (some ⟨w.heap.size, 0, none⟩) 5 9) (120 :: be t.size 4) := Rb.pre hk (by omega) (by simp [be_len]) (by omega) (by
    have hl : (bcells (120 :: be t.size 4)).length = 5 := by simp [bcells_length, be_len]
    have := List.take_left (l₁ := bcells (120 :: be t.size 4)) (l₂ := [.int .u8 0, .int .u8 0, .int .u8 0, .int .u8 0])
    rw [hl] at this
    exact this)
  have hwr := write_any hb1.drew hrb.drew (by simp; omega) (by simp [be_len]; omega)
  have HW := Lib.hid hwr
  have hRd1 := HRd.out.keep fun g hg => hbel.block g (HP.out g hg).1
  have HRd1 := Lib.hid hRd1
  have HS1 := Lib.hid hs1
  clear hbl hsz hk hrb hwr hRd1 hs1
  go_wp2_with fail
  go_region_with (refine HW.out.mono ?_; rintro e w2 ⟨rfl, sv2, hb2, hw2⟩)
  all_goals
    have hW2 := (Wr.ofBelow hbel (Nat.le_refl _) sv.ownBlock).drew.trans hw2
    have hsz2 := hW2.size
    have hRd2 := HRd.out.keep fun g hg => hW2.block g (HP.out g hg).1 (HP.out g hg).2.1 (HP.out g hg).2.2
    have hrb2 : Rb w2 w2.heap.size (.slice A t.size c) t.data.toList := hRd2.rb (fun g hg => by have := (HP.out g hg).1; omega) (size_toList t) hc
    have HRB2 := Lib.hid hrb2
    clear hRd2 hrb2
    go_wp2_with fail
    refine (write_any hb2 HRB2.out (by omega) (by simp [be_len]; have := size_toList t; omega)).mono ?_
    rw [size_toList]
    rintro e w3 ⟨rfl, sv3, hb3, hw3⟩
    go_wp2
    go_ret
    refine ⟨rfl, sv3, ?_, hW2.trans hw3⟩
    simpa [V.enc] using hb3

end Go.Proofs.YtabeppaehenefaaGreat
