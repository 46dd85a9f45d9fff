/-
  FnTableRead: readers that find what they look for: numbers, short and long strings, decimals, times.
-/
import Derived.Test.YtkcdakohmfodjaaRe
import Derived.Test.YtkcdakohmfodjaaCuts
namespace Go.Proofs.Ytkcdakohmfodjaa
open Go.RowKit
attribute [local go_sem ↓] Go.wp_at_zero Go.wp_at_succ

/-! ### numbers out of their bytes -/
theorem num_1 (n : Nat) : num (be n 1) = n % 256 := by
  simp only [num, be, List.foldl, toNat_ofNat8, Nat.shiftRight_eq_div_pow]
  omega
theorem num_2 (n : Nat) : num (be n 2) = n % 65536 := by
  simp only [num, be, List.foldl, toNat_ofNat8, Nat.shiftRight_eq_div_pow]
  omega
theorem num_4 (n : Nat) : num (be n 4) = n % 4294967296 := by
  simp only [num, be, List.foldl, toNat_ofNat8, Nat.shiftRight_eq_div_pow]
  omega
theorem num_8 (n : Nat) : num (be n 8) = n % 18446744073709551616 := by
  have h := num_4 n
  have h2 := num_4 (n / 4294967296)
  have e : num (be n 8) = num (be (n / 4294967296) 4) * 4294967296 + num (be n 4) := by
    simp only [num, be, List.foldl, toNat_ofNat8, Nat.shiftRight_eq_div_pow, Nat.div_div_eq_div_mul]
    simp only [show (4294967296 : Nat) * 2 ^ (8 * 3) = 2 ^ (8 * 7) by decide, show (4294967296 : Nat) * 2 ^ (8 * 2) = 2 ^ (8 * 6) by decide, show (4294967296 : Nat) * 2 ^ (8 * 1) = 2 ^ (8 * 5) by decide, show (4294967296 : Nat) * 2 ^ (8 * 0) = 2 ^ (8 * 4) by decide]
    omega
  rw [e, h, h2]
  omega
theorem u64_i (n : Int) : ((u64 n : Nat) : Int) = n % 18446744073709551616 := by unfold u64; omega
theorem rd_u8 (n : Int) (h : 0 ≤ n ∧ n ≤ 255) : ((num (be (u64 n) 1) : Nat) : Int) = n := by
  have := u64_i n
  rw [num_1]; omega
theorem rd_i8 (n : Int) (h : -128 ≤ n ∧ n ≤ 127) : IntKind.i8.wrap ((num (be (u64 n) 1) : Nat) : Int) = n := by
  have := u64_i n
  rw [num_1]; simp [IntKind.wrap, IntKind.bits, IntKind.signed]; omega
theorem rd_i16 (n : Int) (h : -32768 ≤ n ∧ n ≤ 32767) : IntKind.i16.wrap ((num (be (u64 n) 2) : Nat) : Int) = n := by
  have := u64_i n
  rw [num_2]; simp [IntKind.wrap, IntKind.bits, IntKind.signed]; omega
theorem rd_i32 (n : Int) (h : -2147483648 ≤ n ∧ n ≤ 2147483647) : IntKind.i32.wrap ((num (be (u64 n) 4) : Nat) : Int) = n := by
  have := u64_i n
  rw [num_4]; simp [IntKind.wrap, IntKind.bits, IntKind.signed]; omega
theorem rd_i64 (n : Int) (h : -9223372036854775808 ≤ n ∧ n ≤ 9223372036854775807) : IntKind.i64.wrap ((num (be (u64 n) 8) : Nat) : Int) = n := by
  have := u64_i n
  rw [num_8, IntKind.wrap_i64]; omega
theorem rd_len (n : Nat) (h : n < 4294967296) : num (be n 4) = n := by rw [num_4]; omega
theorem rd_f64 (n : Nat) (h : n < 18446744073709551616) : num (be n 8) = n := by rw [num_8]; omega

/-! ### a reader with something ahead -/
/-- what a reader has ahead: ys, all of it within its limits, and rest behind -/
structure Rdy (w : World) (B : Nat) (r : Value) (ns : List Nat) (ys rest : List UInt8) (S : List Nat) (R : Option Nat) : Prop where
  rr : Rr w B r ns (ys ++ rest) S R
  small : Small ns
  len : (ys ++ rest).length ≤ 1000000000
  av : ys.length ≤ avail ns (ys ++ rest)
  row : ∀ x, R = some x → x < w.heap.size
  base : B ≤ w.heap.size

section
variable {w w1 : World} {B : Nat} {r : Value} {ns : List Nat} {xs ys rest : List UInt8} {S : List Nat} {R : Option Nat}
theorem Rdy.alloc (h : Rdy w B r ns ys rest S R) (o : Obj) : Rdy (w.alloc o) B r ns ys rest S R :=
  ⟨h.rr.alloc h.base o h.row, h.small, h.len, h.av, fun x hx => by have := h.row x hx; simp; omega, by have := h.base; simp; omega⟩
theorem Rdy.next (h : Rdy w B r ns (xs ++ ys) rest S R) (hr : Rr w1 B r (ns.map (· - xs.length)) (ys ++ rest) S R) (hs : w.heap.size ≤ w1.heap.size) : Rdy w1 B r (ns.map (· - xs.length)) ys rest S R := by
  refine ⟨hr, h.small.sub _, ?_, ?_, fun x hx => by have := h.row x hx; omega, by have := h.base; omega⟩
  · have := h.len
    simp only [List.length_append] at this ⊢
    omega
  · have h1 := avail_drop ns ((xs ++ ys) ++ rest) xs.length
    rw [List.append_assoc, List.drop_left] at h1
    have := h.av
    rw [List.append_assoc, List.length_append] at this
    rw [h1]
    omega
theorem Rdy.notS (h : Rdy w B r ns ys rest S R) : w.heap.size ∉ S := fun hm => by have := h.rr.lt _ hm; have := h.base; omega
theorem Rdy.notR (h : Rdy w B r ns ys rest S R) : R ≠ some w.heap.size := fun e => by have := h.row _ e; omega
theorem Rdy.shape (h : Rdy w B r ns ys rest S R) : ∃ T a, r = .iface T (.pointer (some a)) := h.rr.shape
/-- what changes neither the reader's blocks nor its row -/
theorem Rdy.keep (h : Rdy w B r ns ys rest S R) (hS : ∀ x ∈ S, w1.heap[x]? = w.heap[x]?) (hR : ∀ x, R = some x → w1.heap[x]? = w.heap[x]?) (hs : w.heap.size ≤ w1.heap.size) : Rdy w1 B r ns ys rest S R :=
  ⟨h.rr.keep hS hR, h.small, h.len, h.av, fun x hx => by have := h.row x hx; omega, by have := h.base; omega⟩
theorem Rdy.below (h : Rdy w B r ns ys rest S R) {A : Nat} (hb : Below A w w1) (hB : B ≤ A) (hR : ∀ x, R = some x → x < A) : Rdy w1 B r ns ys rest S R :=
  h.keep (fun x hx => hb.block x (by have := h.rr.lt x hx; omega)) (fun x hx => hb.block x (hR x hx)) hb.size
theorem Rdy.belowAll (h : Rdy w B r ns ys rest S R) (hb : Below w.heap.size w w1) : Rdy w1 B r ns ys rest S R := h.below hb h.base h.row
theorem Rdy.store (h : Rdy w B r ns ys rest S R) {pb : Nat} (hS : pb ∉ S) (hR : R ≠ some pb) (q : Nat) (u : Value) : Rdy (w.setCell ⟨pb, q, none⟩ u) B r ns ys rest S R :=
  h.keep (fun x hx => Below.heap_setCell _ _ _ _ (fun e => by subst e; exact hS hx)) (fun x hx => Below.heap_setCell _ _ _ _ (fun e => hR (by rw [hx, e]))) (by simp [World.setCell])
end

/-- what a read into a new cell comes to -/
def ValPost (w : World) (B : Nat) (r : Value) (ns : List Nat) (ys rest : List UInt8) (S : List Nat) (R : Option Nat) (T : TypeId) (n : Nat) (v : Value) (e : Ending) (w1 : World) : Prop :=
  e = .returned .nilIface ∧ Blk w1 w.heap.size T #[v] ∧ Rdy w1 B r (ns.map (· - n)) ys rest S R ∧ But w w1 S

theorem val_post {w : World} {B : Nat} {r : Value} {ns : List Nat} {xs ys rest : List UInt8} {S : List Nat} {R : Option Nat} {T : TypeId} {z : Value} {n : Nat} {val : List UInt8 → Value} {e : Ending} {w1 : World}
    (h : Rdy w B r ns (xs ++ ys) rest S R) (hx : xs.length = n) (hp : FixPost (w.alloc (.cells #[z] T)) B r ns ((xs ++ ys) ++ rest) S R w.heap.size 0 T #[z] n val e w1) : ValPost w B r ns ys rest S R T n (val xs) e w1 := by
  rcases hp with ⟨_, h1, h2, h3, h4⟩ | ⟨h0, _⟩
  · subst hx
    rw [List.append_assoc, List.take_left] at h2
    rw [List.append_assoc, List.drop_left] at h3
    refine ⟨h1, by simpa using h2, h.next h3 (by have := h4.size; simp at this; omega), ((But.refl w S).alloc _).weaken h4 (fun x hx => ?_)⟩
    rcases List.mem_cons.1 hx with e | e
    · exact .inr (by omega)
    · exact .inl e
  · have := h.av
    rw [List.length_append] at this
    omega

section
variable {w : World} {B : Nat} {r : Value} {ns : List Nat} {xs ys rest : List UInt8} {S : List Nat} {R : Option Nat}
theorem val_185 (h : Rdy w B r ns (xs ++ ys) rest S R) (hx : xs.length = 1) : Calls Try.prog 87 #[r, .iface 185 (.pointer (some ⟨w.heap.size, 0, none⟩))] (w.alloc (.cells #[.int .u8 0] 5)) (ValPost w B r ns ys rest S R 5 1 (.int .u8 (num xs))) :=
  (rf_185 (h.alloc _).rr h.small h.len (Blk.new w 5 _) rfl rfl h.notS h.notR (h.alloc _).row (h.alloc _).base).mono fun _ _ hp => val_post (val := fun l => .int .u8 (num l)) h hx hp
theorem val_188 (h : Rdy w B r ns (xs ++ ys) rest S R) (hx : xs.length = 1) : Calls Try.prog 87 #[r, .iface 188 (.pointer (some ⟨w.heap.size, 0, none⟩))] (w.alloc (.cells #[.int .i8 0] 117)) (ValPost w B r ns ys rest S R 117 1 (.int .i8 (IntKind.i8.wrap (num xs)))) :=
  (rf_188 (h.alloc _).rr h.small h.len (Blk.new w 117 _) rfl rfl h.notS h.notR (h.alloc _).row (h.alloc _).base).mono fun _ _ hp => val_post (val := fun l => .int .i8 (IntKind.i8.wrap (num l))) h hx hp
theorem val_189 (h : Rdy w B r ns (xs ++ ys) rest S R) (hx : xs.length = 2) : Calls Try.prog 87 #[r, .iface 189 (.pointer (some ⟨w.heap.size, 0, none⟩))] (w.alloc (.cells #[.int .i16 0] 118)) (ValPost w B r ns ys rest S R 118 2 (.int .i16 (IntKind.i16.wrap (num xs)))) :=
  (rf_189 (h.alloc _).rr h.small h.len (Blk.new w 118 _) rfl rfl h.notS h.notR (h.alloc _).row (h.alloc _).base).mono fun _ _ hp => val_post (val := fun l => .int .i16 (IntKind.i16.wrap (num l))) h hx hp
theorem val_183 (h : Rdy w B r ns (xs ++ ys) rest S R) (hx : xs.length = 4) : Calls Try.prog 87 #[r, .iface 183 (.pointer (some ⟨w.heap.size, 0, none⟩))] (w.alloc (.cells #[.int .u32 0] 119)) (ValPost w B r ns ys rest S R 119 4 (.int .u32 (num xs))) :=
  (rf_183 (h.alloc _).rr h.small h.len (Blk.new w 119 _) rfl rfl h.notS h.notR (h.alloc _).row (h.alloc _).base).mono fun _ _ hp => val_post (val := fun l => .int .u32 (num l)) h hx hp
theorem val_190 (h : Rdy w B r ns (xs ++ ys) rest S R) (hx : xs.length = 4) : Calls Try.prog 87 #[r, .iface 190 (.pointer (some ⟨w.heap.size, 0, none⟩))] (w.alloc (.cells #[.int .i32 0] 21)) (ValPost w B r ns ys rest S R 21 4 (.int .i32 (IntKind.i32.wrap (num xs)))) :=
  (rf_190 (h.alloc _).rr h.small h.len (Blk.new w 21 _) rfl rfl h.notS h.notR (h.alloc _).row (h.alloc _).base).mono fun _ _ hp => val_post (val := fun l => .int .i32 (IntKind.i32.wrap (num l))) h hx hp
theorem val_193 (h : Rdy w B r ns (xs ++ ys) rest S R) (hx : xs.length = 4) : Calls Try.prog 87 #[r, .iface 193 (.pointer (some ⟨w.heap.size, 0, none⟩))] (w.alloc (.cells #[.float .f32 0] 120)) (ValPost w B r ns ys rest S R 120 4 (.float .f32 (num xs))) :=
  (rf_193 (h.alloc _).rr h.small h.len (Blk.new w 120 _) rfl rfl h.notS h.notR (h.alloc _).row (h.alloc _).base).mono fun _ _ hp => val_post (val := fun l => .float .f32 (num l)) h hx hp
theorem val_191 (h : Rdy w B r ns (xs ++ ys) rest S R) (hx : xs.length = 8) : Calls Try.prog 87 #[r, .iface 191 (.pointer (some ⟨w.heap.size, 0, none⟩))] (w.alloc (.cells #[.int .i64 0] 2)) (ValPost w B r ns ys rest S R 2 8 (.int .i64 (IntKind.i64.wrap (num xs)))) :=
  (rf_191 (h.alloc _).rr h.small h.len (Blk.new w 2 _) rfl rfl h.notS h.notR (h.alloc _).row (h.alloc _).base).mono fun _ _ hp => val_post (val := fun l => .int .i64 (IntKind.i64.wrap (num l))) h hx hp
theorem val_194 (h : Rdy w B r ns (xs ++ ys) rest S R) (hx : xs.length = 8) : Calls Try.prog 87 #[r, .iface 194 (.pointer (some ⟨w.heap.size, 0, none⟩))] (w.alloc (.cells #[.float .f64 0] 77)) (ValPost w B r ns ys rest S R 77 8 (.float .f64 (num xs))) :=
  (rf_194 (h.alloc _).rr h.small h.len (Blk.new w 77 _) rfl rfl h.notS h.notR (h.alloc _).row (h.alloc _).base).mono fun _ _ hp => val_post (val := fun l => .float .f64 (num l)) h hx hp

/-- readBytes, where enough is ahead -/
theorem bytes_ok {n : Nat} (h : Rdy w B r ns (xs ++ ys) rest S R) (hx : xs.length = n) (hn : n ≤ 2147483647) : Calls Try.prog 88 #[r, .int .i64 n] w fun e w1 =>
    ∃ (g c : Nat) (cs : Array Value), e = .returned (.tuple #[.slice (some ⟨g, 0, none⟩) n c, .nilIface]) ∧ Blk w1 g 5 cs ∧ cs.toList.take n = bcells xs ∧ w.heap.size ≤ g ∧ n ≤ c ∧ Rdy w1 B r (ns.map (· - n)) ys rest S R ∧ But w w1 S := by
  refine (readBytes_any h.rr h.small h.len h.row h.base hn).mono ?_
  rintro e w1 (⟨_, g, c, cs, h1, h2, h3, h4, h5, h6, h7⟩ | ⟨h0, _⟩)
  · subst hx
    rw [List.append_assoc, List.take_left] at h3
    rw [List.append_assoc, List.drop_left] at h6
    exact ⟨g, c, cs, h1, h2, h3, h4, h5, h.next h6 h7.size, h7⟩
  · have := h.av
    rw [List.length_append] at this
    omega

/-- readLongstr, where enough is ahead -/
theorem long_ok {t : ByteArray} (h : Rdy w B r ns ((be t.size 4 ++ t.data.toList) ++ ys) rest S R) (ht : t.size ≤ 2147483647) : Calls Try.prog 71 #[r] w fun e w1 =>
    e = .returned (.tuple #[.string t, .nilIface]) ∧ Rdy w1 B r (ns.map (· - (4 + t.size))) ys rest S R ∧ But w w1 S := by
  have e0 : t.data.toList.length = t.size := by rw [Array.length_toList]; rfl
  have e1 : (((be t.size 4 ++ t.data.toList) ++ ys) ++ rest).take 4 = be t.size 4 := by
    rw [List.append_assoc, List.append_assoc, List.take_append_of_le_length (by rw [be_len]; omega), List.take_of_length_le (by rw [be_len]; omega)]
  have e2 : (be t.size 4 ++ t.data.toList).length = 4 + t.size := by rw [List.length_append, be_len, e0]
  have hn : num ((((be t.size 4 ++ t.data.toList) ++ ys) ++ rest).take 4) = t.size := by rw [e1, rd_len _ (by omega)]
  have hav := h.av
  rw [List.length_append, e2] at hav
  refine (readLong_any h.rr h.small h.len h.row h.base (fun _ => by rw [hn]; exact ht)).mono ?_
  rintro e w1 (⟨h0, h1, h2, h3, h4⟩ | ⟨h0, _⟩)
  · rw [hn] at h1 h2 h3
    refine ⟨?_, ?_, h4⟩
    · rw [h2]
      have : ((((be t.size 4 ++ t.data.toList) ++ ys) ++ rest).drop 4).take t.size = t.data.toList := by
        have e4 : (((be t.size 4 ++ t.data.toList) ++ ys) ++ rest).drop 4 = t.data.toList ++ (ys ++ rest) := by
          rw [List.append_assoc, List.append_assoc]
          have := List.drop_left (l₁ := be t.size 4) (l₂ := t.data.toList ++ (ys ++ rest))
          rwa [be_len] at this
        rw [e4]
        have := List.take_left (l₁ := t.data.toList) (l₂ := ys ++ rest)
        rwa [e0] at this
      rw [this]
    · have := h.next (w1 := w1) (ys := ys) (by
        rw [e2]
        have e5 : (((be t.size 4 ++ t.data.toList) ++ ys) ++ rest).drop (4 + t.size) = ys ++ rest := by
          rw [List.append_assoc, ← e2, List.drop_left]
        rwa [e5] at h3) h4.size
      rwa [e2] at this
  · omega
end

set_option maxRecDepth 100000 in
set_option maxHeartbeats 4000000 in
/-- readShortstr, where enough is ahead -/
theorem short_ok {w : World} {B : Nat} {r : Value} {ns : List Nat} {ys rest : List UInt8} {S : List Nat} {R : Option Nat} {t : ByteArray} (h : Rdy w B r ns ((UInt8.ofNat t.size :: t.data.toList) ++ ys) rest S R) (ht : t.size ≤ 255) : Calls Try.prog 73 #[r] w fun e w1 =>
    e = .returned (.tuple #[.string t, .nilIface]) ∧ Rdy w1 B r (ns.map (· - (1 + t.size))) ys rest S R ∧ But w w1 S := by
  obtain ⟨T0, a0, hr0⟩ := h.shape
  subst hr0
  have h' : Rdy w B (.iface T0 (.pointer (some a0))) ns ([UInt8.ofNat t.size] ++ (t.data.toList ++ ys)) rest S R := by simpa using h
  have H1 := Lib.hid (val_185 h' rfl)
  have e0 : t.data.toList.length = t.size := by rw [Array.length_toList]; rfl
  have hn : num [UInt8.ofNat t.size] = t.size := by
    simp only [num, List.foldl, toNat_ofNat8]
    omega
  rw [hn] at H1
  have HE0 := Lib.hid e0
  clear h h' hn e0
  go_enter Try.func73, Try.ntmps73
  go_wp2_with fail
  refine H1.out.mono ?_
  rintro e w1 ⟨rfl, k1, r1, b1⟩
  have c1 := k1.cell0
  have fz := k1.frozen 0
  have H2 := Lib.hid (bytes_ok r1 HE0.out (by omega))
  have hw : IntKind.i64.wrap ((t.size : Nat) : Int) = (t.size : Int) := IntWalk.i64_in _ (by omega)
  have HB1 := Lib.hid b1
  clear r1 k1 b1
  go_wp2_with fail
  refine H2.out.mono ?_
  rintro e w2 ⟨g, c, cs, rfl, g2, ht2, hg0, hnc, r2, b2⟩
  have hcv := conv_row (c := c) g2 HE0.out ht2
  have HR2 := Lib.hid r2
  clear r2 ht2 g2
  go_wp2_with fail
  go_ret2
  refine ⟨rfl, ?_, HB1.out.trans b2⟩
  have := HR2.out
  rwa [map_sub_sub] at this

set_option maxRecDepth 100000 in
set_option maxHeartbeats 4000000 in
/-- readDecimal, where enough is ahead -/
theorem decimal_ok {w : World} {B : Nat} {r : Value} {ns : List Nat} {ys rest : List UInt8} {S : List Nat} {R : Option Nat} {s n : Int} (h : Rdy w B r ns (be (u64 s) 1 ++ (be (u64 n) 4 ++ ys)) rest S R) (hs : 0 ≤ s ∧ s ≤ 255) (hn : -2147483648 ≤ n ∧ n ≤ 2147483647) : Calls Try.prog 90 #[r] w fun e w1 =>
    e = .returned (.tuple #[.agg #[.int .u8 s, .int .i32 n], .nilIface]) ∧ Rdy w1 B r (ns.map (· - 5)) ys rest S R ∧ But w w1 S := by
  obtain ⟨T0, a0, hr0⟩ := h.shape
  subst hr0
  have ha := h.alloc (.cells #[.int .u8 0, .int .i32 0] 122)
  have hk := Blk.new w 122 #[.int .u8 0, .int .i32 0]
  have H1 := Lib.hid (rf_185 (q := 0) ha.rr h.small h.len hk rfl rfl h.notS h.notR ha.row ha.base)
  have Hh := Lib.hid h
  have hav := h.av
  rw [List.length_append, List.length_append, be_len, be_len] at hav
  clear h ha hk
  go_enter Try.func90, Try.ntmps90
  go_wp2_with fail
  refine H1.out.mono ?_
  rintro e w1 (⟨_, rfl, k1, r1, b1⟩ | ⟨h0, _⟩)
  rotate_left
  · exfalso; omega
  have e1 : ((be (u64 s) 1 ++ (be (u64 n) 4 ++ ys)) ++ rest).take 1 = be (u64 s) 1 := by
    rw [List.append_assoc]
    have := List.take_left (l₁ := be (u64 s) 1) (l₂ := (be (u64 n) 4 ++ ys) ++ rest)
    rwa [be_len] at this
  have e2 : ((be (u64 s) 1 ++ (be (u64 n) 4 ++ ys)) ++ rest).drop 1 = (be (u64 n) 4 ++ ys) ++ rest := by
    rw [List.append_assoc]
    have := List.drop_left (l₁ := be (u64 s) 1) (l₂ := (be (u64 n) 4 ++ ys) ++ rest)
    rwa [be_len] at this
  have hsz := b1.size
  simp at hsz
  have r1' : Rdy w1 B (.iface T0 (.pointer (some a0))) (ns.map (· - 1)) (be (u64 n) 4 ++ ys) rest S R := by
    have := Hh.out.next (w1 := w1) (by rw [be_len]; rw [e2] at r1; exact r1) (by omega)
    rwa [be_len] at this
  rw [e1] at k1
  simp only [rd_u8 s hs] at k1
  have k1' : Blk w1 w.heap.size 122 #[.int .u8 s, .int .i32 0] := by simpa using k1
  have H2 := Lib.hid (rf_190 (q := 1) r1'.rr r1'.small r1'.len k1' rfl rfl (Hh.out.notS) (Hh.out.notR) r1'.row r1'.base)
  have HR1 := Lib.hid r1'
  have hav1 := r1'.av
  rw [List.length_append, be_len] at hav1
  have HB1 := Lib.hid b1
  clear r1 r1' b1 k1 k1' e1 e2
  go_wp2_with fail
  refine H2.out.mono ?_
  rintro e w2 (⟨_, rfl, k2, r2, b2⟩ | ⟨h0, _⟩)
  rotate_left
  · exfalso; omega
  have e1 : ((be (u64 n) 4 ++ ys) ++ rest).take 4 = be (u64 n) 4 := by
    rw [List.append_assoc]
    have := List.take_left (l₁ := be (u64 n) 4) (l₂ := ys ++ rest)
    rwa [be_len] at this
  have e2 : ((be (u64 n) 4 ++ ys) ++ rest).drop 4 = ys ++ rest := by
    rw [List.append_assoc]
    have := List.drop_left (l₁ := be (u64 n) 4) (l₂ := ys ++ rest)
    rwa [be_len] at this
  have hsz2 := b2.size
  have r2' : Rdy w2 B (.iface T0 (.pointer (some a0))) (ns.map (· - 5)) ys rest S R := by
    have := HR1.out.next (w1 := w2) (by rw [be_len]; rw [e2] at r2; exact r2) (by omega)
    rw [be_len, map_sub_sub] at this
    exact this
  rw [e1] at k2
  simp only [rd_i32 n hn] at k2
  have k2' : Blk w2 w.heap.size 122 #[.int .u8 s, .int .i32 n] := by simpa using k2
  have c0 : w2.cell? ⟨w.heap.size, 0, none⟩ = some (.int .u8 s) := by rw [k2'.cell]; rfl
  have c1 : w2.cell? ⟨w.heap.size, 1, none⟩ = some (.int .i32 n) := by rw [k2'.cell]; rfl
  have HR2 := Lib.hid r2'
  have hB : But w w2 S := (((But.refl w S).alloc _).weaken HB1.out (fun x hx => by
    rcases List.mem_cons.1 hx with e | e
    · exact .inr (by omega)
    · exact .inl e)).weaken b2 (fun x hx => by
    rcases List.mem_cons.1 hx with e | e
    · exact .inr (by omega)
    · exact .inl e)
  have HB := Lib.hid hB
  clear r2 r2' b2 k2 k2' e1 e2 hB
  go_wp2_with fail
  exact bodyPost_ret (v := .tuple #[.agg #[.int .u8 s, .int .i32 n], .nilIface]) (by simp [results, Try.results90, go_sem, c0, c1]) rfl ⟨rfl, HR2.out, HB.out⟩

set_option maxRecDepth 100000 in
set_option maxHeartbeats 4000000 in
/-- readTimestamp, where enough is ahead -/
theorem time_ok {w : World} {B : Nat} {r : Value} {ns : List Nat} {ys rest : List UInt8} {S : List Nat} {R : Option Nat} {n : Int} (h : Rdy w B r ns (be (u64 n) 8 ++ ys) rest S R) (hn : 0 ≤ n ∧ n < 1099511627776) : Calls Try.prog 92 #[r] w fun e w1 =>
    e = .returned (.tuple #[.agg (timeCells n), .nilIface]) ∧ Rdy w1 B r (ns.map (· - 8)) ys rest S R ∧ But w w1 S := by
  obtain ⟨T0, a0, hr0⟩ := h.shape
  subst hr0
  have H1 := Lib.hid (val_191 (h.alloc (.cells #[.int .u64 0, .int .i64 0, .pointer none] 125)) (be_len _ _))
  rw [rd_i64 n (by omega)] at H1
  have hk := Blk.new w 125 #[.int .u64 0, .int .i64 0, .pointer none]
  have hkS : w.heap.size ∉ S := h.notS
  have hkR : R ≠ some w.heap.size := h.notR
  have hs0 : (w.alloc (.cells #[.int .u64 0, .int .i64 0, .pointer none] 125)).heap.size = w.heap.size + 1 := by simp
  rw [hs0] at H1
  have Hh := Lib.hid hkS
  have HhR := Lib.hid hkR
  have HK := Lib.hid hk
  have HB0 := Lib.hid ((But.refl w S).alloc (.cells #[.int .u64 0, .int .i64 0, .pointer none] 125))
  have HS0 := Lib.hid hs0
  clear h hk hkS hkR hs0
  go_enter Try.func92, Try.ntmps92
  go_wp2_with fail
  refine H1.out.mono ?_
  rintro e w1 ⟨rfl, k1, r1, b1⟩
  rw [HS0.out] at k1
  have c1 := k1.cell0
  have fz := k1.frozen 0
  have q1 := b1.blk HK.out Hh.out
  have HU := Lib.hid (Unix_any (w := w1) n hn.1 hn.2)
  have HR1 := Lib.hid r1
  have HB1 := Lib.hid b1
  have HQ1 := Lib.hid q1
  clear k1 r1 b1 q1
  go_wp2_with fail
  refine HU.out.mono ?_
  rintro e w2 ⟨rfl, hbel⟩
  have q2 := HQ1.out.below hbel HQ1.out.lt
  have r2 := HR1.out.belowAll hbel
  have hB : But w w2 S := (HB0.out.trans HB1.out).trans (But.ofBelow hbel S)
  have c0 : w2.cell? ⟨w.heap.size, 0, none⟩ = some (.int .u64 0) := by rw [q2.cell]; rfl
  have c1' : w2.cell? ⟨w.heap.size, 1, none⟩ = some (.int .i64 0) := by rw [q2.cell]; rfl
  have c2 : w2.cell? ⟨w.heap.size, 2, none⟩ = some (.pointer none) := by rw [q2.cell]; rfl
  have fz2 := fun i => q2.frozen i
  have e0 : (w2.setCell ⟨w.heap.size, 0, none⟩ (.int .u64 0)).cell? ⟨w.heap.size, 0, none⟩ = some (.int .u64 0) := by rw [(q2.set_ 0 (.int .u64 0)).cell]; rfl
  have e1 : ((w2.setCell ⟨w.heap.size, 0, none⟩ (.int .u64 0)).setCell ⟨w.heap.size, 1, none⟩ (.int .i64 (n + 62135596800))).cell? ⟨w.heap.size, 1, none⟩ = some (.int .i64 (n + 62135596800)) := by
    rw [((q2.set_ 0 (.int .u64 0)).set_ 1 (.int .i64 (n + 62135596800))).cell]; rfl
  have e2 : (((w2.setCell ⟨w.heap.size, 0, none⟩ (.int .u64 0)).setCell ⟨w.heap.size, 1, none⟩ (.int .i64 (n + 62135596800))).setCell ⟨w.heap.size, 2, none⟩ (.pointer none)).cell? ⟨w.heap.size, 2, none⟩ = some (.pointer none) := by
    rw [(((q2.set_ 0 (.int .u64 0)).set_ 1 (.int .i64 (n + 62135596800))).set_ 2 (.pointer none)).cell]; rfl
  have hRd : Rdy (((w2.setCell ⟨w.heap.size, 0, none⟩ (.int .u64 0)).setCell ⟨w.heap.size, 1, none⟩ (.int .i64 (n + 62135596800))).setCell ⟨w.heap.size, 2, none⟩ (.pointer none)) B (.iface T0 (.pointer (some a0))) (ns.map (· - 8)) ys rest S R :=
    ((r2.store Hh.out HhR.out 0 _).store Hh.out HhR.out 1 _).store Hh.out HhR.out 2 _
  have hBut : But w (((w2.setCell ⟨w.heap.size, 0, none⟩ (.int .u64 0)).setCell ⟨w.heap.size, 1, none⟩ (.int .i64 (n + 62135596800))).setCell ⟨w.heap.size, 2, none⟩ (.pointer none)) S :=
    ((hB.setCell (.inr (Nat.le_refl _)) _).setCell (.inr (Nat.le_refl _)) _).setCell (.inr (Nat.le_refl _)) _
  have HRd := Lib.hid hRd
  have HBut := Lib.hid hBut
  clear q2 r2 hB hbel hRd hBut
  go_wp2_with fail
  exact bodyPost_ret (v := .tuple #[.agg (timeCells n), .nilIface]) (by simp [results, Try.results92, go_sem, e0, e1, e2]) rfl ⟨rfl, HRd.out, HBut.out⟩


end Go.Proofs.Ytkcdakohmfodjaa
