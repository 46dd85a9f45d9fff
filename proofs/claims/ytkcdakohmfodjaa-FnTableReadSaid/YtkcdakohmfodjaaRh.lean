/-
  FnTableRead: readFieldDepth, letter by letter.
-/
import Derived.Test.YtkcdakohmfodjaaRg
import Derived.Test.YtkcdakohmfodjaaIb
namespace Go.Proofs.Ytkcdakohmfodjaa
open Go.RowKit
attribute [local go_sem ↓] Go.wp_at_zero Go.wp_at_succ

/-- what a value that is read comes to -/
def GotV (w : World) (B : Nat) (r : Value) (ns : List Nat) (n : Nat) (ys rest : List UInt8) (S : List Nat) (R : Option Nat) (v : V) (e : Ending) (w' : World) : Prop :=
  ∃ x, e = .returned (.tuple #[x, .nilIface]) ∧ AnyV w' (New w w') v x ∧ Rdy w' B r (ns.map (· - n)) ys rest S R ∧ But w w' S
def RLet (dd : Nat) (v : V) : Prop := ∀ (w : World) (B : Nat) (r : Value) (ns : List Nat) (ys rest : List UInt8) (S : List Nat) (R : Option Nat), Rdy w B r ns (v.enc ++ ys) rest S R → Calls Try.prog 74 #[r, .int .i64 dd] w (GotV w B r ns v.enc.length ys rest S R v)
/-- an array, a table, behind their letters -/
def RArr (dd : Nat) (ks : Vs) : Prop := ∀ (w : World) (B : Nat) (r : Value) (ns : List Nat) (ys rest : List UInt8) (S : List Nat) (R : Option Nat), Rdy w B r ns ((be ks.enc.length 4 ++ ks.enc) ++ ys) rest S R → Calls Try.prog 91 #[r, .int .i64 dd] w fun e w' =>
  ∃ A c xs, e = .returned (.tuple #[.slice A ks.len c, .nilIface]) ∧ ks.len ≤ c ∧ Rd w' (New w w') A xs ∧ AnyVs w' (New w w') ks xs ∧ Rdy w' B r (ns.map (· - (4 + ks.enc.length))) ys rest S R ∧ But w w' S
def RTab (dd : Nat) (fs : Fs) : Prop := ∀ (w : World) (B : Nat) (r : Value) (ns : List Nat) (ys rest : List UInt8) (S : List Nat) (R : Option Nat), Rdy w B r ns (tab fs ++ ys) rest S R → Calls Try.prog 57 #[r, .int .i64 dd] w fun e w' =>
  ∃ b, e = .returned (.tuple #[.map (some b), .nilIface]) ∧ TabV w' (New w w') fs b ∧ Rdy w' B r (ns.map (· - (4 + fs.enc.length))) ys rest S R ∧ But w w' S

theorem New.mono {w w1 w2 : World} (h : w.heap.size ≤ w1.heap.size) {g : Nat} (hg : New w1 w2 g) : New w w2 g := ⟨Nat.le_trans h hg.1, hg.2⟩
theorem i32_len (n : Nat) (h : n ≤ 2147483647) : IntKind.i32.wrap ((num (be n 4) : Nat) : Int) = (n : Int) := by
  rw [num_4]; simp [IntKind.wrap, IntKind.bits, IntKind.signed]; omega

set_option maxRecDepth 100000 in
set_option maxHeartbeats 4000000 in
theorem rl_98 (dd : Nat) (n : Int) (f : Nat) (s : Int) (t : ByteArray) (ks : Vs) (fs : Fs) (hn : -128 ≤ n ∧ n ≤ 127) : RLet dd (.mk 98 n f s t ks fs) := by
  intro w B r ns ys rest S R h
  obtain ⟨T0, a0, hr0⟩ := h.shape
  subst hr0
  have he : (V.mk 98 n f s t ks fs).enc = [UInt8.ofNat 98] ++ be (u64 n) 1 := by simp [V.enc]
  have hl : (V.mk 98 n f s t ks fs).enc.length = 2 := by rw [he]; simp [be_len]
  rw [hl]
  rw [he, List.append_assoc] at h
  have H1 := Lib.hid (val_185 h rfl)
  have hk : num [UInt8.ofNat 98] = 98 := by decide
  rw [hk] at H1
  clear h he hl hk
  go_enter Try.func74, Try.ntmps74
  go_wp2_with fail
  refine H1.out.mono ?_
  rintro e w1 ⟨rfl, k1, r1, b1⟩
  have c1 := k1.cell0
  have z1 := k1.frozen 0
  have HB1 := Lib.hid b1
  have H2 := Lib.hid (val_188 r1 (be_len _ _))
  rw [rd_i8 n hn] at H2
  clear k1 r1 b1
  go_wp2_with fail
  refine H2.out.mono ?_
  rintro e w2 ⟨rfl, k2, r2, b2⟩
  have c2 := k2.cell0
  have z2 := k2.frozen 0
  have HR2 := Lib.hid r2
  have HB2 := Lib.hid b2
  clear k2 r2 b2
  go_wp2_with fail
  go_ret2
  refine ⟨_, rfl, ?_, ?_, HB1.out.trans HB2.out⟩
  · rw [AnyV]; left; unfold AnyS; simp
  · have := HR2.out; rw [map_sub_sub] at this; exact this

set_option maxRecDepth 100000 in
set_option maxHeartbeats 4000000 in
theorem rl_115 (dd : Nat) (n : Int) (f : Nat) (s : Int) (t : ByteArray) (ks : Vs) (fs : Fs) (hn : -32768 ≤ n ∧ n ≤ 32767) : RLet dd (.mk 115 n f s t ks fs) := by
  intro w B r ns ys rest S R h
  obtain ⟨T0, a0, hr0⟩ := h.shape
  subst hr0
  have he : (V.mk 115 n f s t ks fs).enc = [UInt8.ofNat 115] ++ be (u64 n) 2 := by simp [V.enc]
  have hl : (V.mk 115 n f s t ks fs).enc.length = 3 := by rw [he]; simp [be_len]
  rw [hl]
  rw [he, List.append_assoc] at h
  have H1 := Lib.hid (val_185 h rfl)
  have hk : num [UInt8.ofNat 115] = 115 := by decide
  rw [hk] at H1
  clear h he hl hk
  go_enter Try.func74, Try.ntmps74
  go_wp2_with fail
  refine H1.out.mono ?_
  rintro e w1 ⟨rfl, k1, r1, b1⟩
  have c1 := k1.cell0
  have z1 := k1.frozen 0
  have HB1 := Lib.hid b1
  have H2 := Lib.hid (val_189 r1 (be_len _ _))
  rw [rd_i16 n hn] at H2
  clear k1 r1 b1
  go_wp2_with fail
  refine H2.out.mono ?_
  rintro e w2 ⟨rfl, k2, r2, b2⟩
  have c2 := k2.cell0
  have z2 := k2.frozen 0
  have HR2 := Lib.hid r2
  have HB2 := Lib.hid b2
  clear k2 r2 b2
  go_wp2_with fail
  go_ret2
  refine ⟨_, rfl, ?_, ?_, HB1.out.trans HB2.out⟩
  · rw [AnyV]; left; unfold AnyS; simp
  · have := HR2.out; rw [map_sub_sub] at this; exact this

set_option maxRecDepth 100000 in
set_option maxHeartbeats 4000000 in
theorem rl_73 (dd : Nat) (n : Int) (f : Nat) (s : Int) (t : ByteArray) (ks : Vs) (fs : Fs) (hn : -2147483648 ≤ n ∧ n ≤ 2147483647) : RLet dd (.mk 73 n f s t ks fs) := by
  intro w B r ns ys rest S R h
  obtain ⟨T0, a0, hr0⟩ := h.shape
  subst hr0
  have he : (V.mk 73 n f s t ks fs).enc = [UInt8.ofNat 73] ++ be (u64 n) 4 := by simp [V.enc]
  have hl : (V.mk 73 n f s t ks fs).enc.length = 5 := by rw [he]; simp [be_len]
  rw [hl]
  rw [he, List.append_assoc] at h
  have H1 := Lib.hid (val_185 h rfl)
  have hk : num [UInt8.ofNat 73] = 73 := by decide
  rw [hk] at H1
  clear h he hl hk
  go_enter Try.func74, Try.ntmps74
  go_wp2_with fail
  refine H1.out.mono ?_
  rintro e w1 ⟨rfl, k1, r1, b1⟩
  have c1 := k1.cell0
  have z1 := k1.frozen 0
  have HB1 := Lib.hid b1
  have H2 := Lib.hid (val_190 r1 (be_len _ _))
  rw [rd_i32 n hn] at H2
  clear k1 r1 b1
  go_wp2_with fail
  refine H2.out.mono ?_
  rintro e w2 ⟨rfl, k2, r2, b2⟩
  have c2 := k2.cell0
  have z2 := k2.frozen 0
  have HR2 := Lib.hid r2
  have HB2 := Lib.hid b2
  clear k2 r2 b2
  go_wp2_with fail
  go_ret2
  refine ⟨_, rfl, ?_, ?_, HB1.out.trans HB2.out⟩
  · rw [AnyV]; left; unfold AnyS; simp
  · have := HR2.out; rw [map_sub_sub] at this; exact this

set_option maxRecDepth 100000 in
set_option maxHeartbeats 4000000 in
theorem rl_108 (dd : Nat) (n : Int) (f : Nat) (s : Int) (t : ByteArray) (ks : Vs) (fs : Fs) (hn : -9223372036854775808 ≤ n ∧ n ≤ 9223372036854775807) : RLet dd (.mk 108 n f s t ks fs) := by
  intro w B r ns ys rest S R h
  obtain ⟨T0, a0, hr0⟩ := h.shape
  subst hr0
  have he : (V.mk 108 n f s t ks fs).enc = [UInt8.ofNat 108] ++ be (u64 n) 8 := by simp [V.enc]
  have hl : (V.mk 108 n f s t ks fs).enc.length = 9 := by rw [he]; simp [be_len]
  rw [hl]
  rw [he, List.append_assoc] at h
  have H1 := Lib.hid (val_185 h rfl)
  have hk : num [UInt8.ofNat 108] = 108 := by decide
  rw [hk] at H1
  clear h he hl hk
  go_enter Try.func74, Try.ntmps74
  go_wp2_with fail
  refine H1.out.mono ?_
  rintro e w1 ⟨rfl, k1, r1, b1⟩
  have c1 := k1.cell0
  have z1 := k1.frozen 0
  have HB1 := Lib.hid b1
  have H2 := Lib.hid (val_191 r1 (be_len _ _))
  rw [rd_i64 n hn] at H2
  clear k1 r1 b1
  go_wp2_with fail
  refine H2.out.mono ?_
  rintro e w2 ⟨rfl, k2, r2, b2⟩
  have c2 := k2.cell0
  have z2 := k2.frozen 0
  have HR2 := Lib.hid r2
  have HB2 := Lib.hid b2
  clear k2 r2 b2
  go_wp2_with fail
  go_ret2
  refine ⟨_, rfl, ?_, ?_, HB1.out.trans HB2.out⟩
  · rw [AnyV]; left; unfold AnyS; simp
  · have := HR2.out; rw [map_sub_sub] at this; exact this

set_option maxRecDepth 100000 in
set_option maxHeartbeats 4000000 in
theorem rl_102 (dd : Nat) (n : Int) (f : Nat) (s : Int) (t : ByteArray) (ks : Vs) (fs : Fs) (hn : f32 f < 4294967296) : RLet dd (.mk 102 n f s t ks fs) := by
  intro w B r ns ys rest S R h
  obtain ⟨T0, a0, hr0⟩ := h.shape
  subst hr0
  have he : (V.mk 102 n f s t ks fs).enc = [UInt8.ofNat 102] ++ be (f32 f) 4 := by simp [V.enc]
  have hl : (V.mk 102 n f s t ks fs).enc.length = 5 := by rw [he]; simp [be_len]
  rw [hl]
  rw [he, List.append_assoc] at h
  have H1 := Lib.hid (val_185 h rfl)
  have hk : num [UInt8.ofNat 102] = 102 := by decide
  rw [hk] at H1
  clear h he hl hk
  go_enter Try.func74, Try.ntmps74
  go_wp2_with fail
  refine H1.out.mono ?_
  rintro e w1 ⟨rfl, k1, r1, b1⟩
  have c1 := k1.cell0
  have z1 := k1.frozen 0
  have HB1 := Lib.hid b1
  have H2 := Lib.hid (val_193 r1 (be_len _ _))
  rw [rd_len _ hn] at H2
  clear k1 r1 b1
  go_wp2_with fail
  refine H2.out.mono ?_
  rintro e w2 ⟨rfl, k2, r2, b2⟩
  have c2 := k2.cell0
  have z2 := k2.frozen 0
  have HR2 := Lib.hid r2
  have HB2 := Lib.hid b2
  clear k2 r2 b2
  go_wp2_with fail
  go_ret2
  refine ⟨_, rfl, ?_, ?_, HB1.out.trans HB2.out⟩
  · rw [AnyV]; left; unfold AnyS; simp
  · have := HR2.out; rw [map_sub_sub] at this; exact this

set_option maxRecDepth 100000 in
set_option maxHeartbeats 4000000 in
theorem rl_100 (dd : Nat) (n : Int) (f : Nat) (s : Int) (t : ByteArray) (ks : Vs) (fs : Fs) (hn : f < 18446744073709551616) : RLet dd (.mk 100 n f s t ks fs) := by
  intro w B r ns ys rest S R h
  obtain ⟨T0, a0, hr0⟩ := h.shape
  subst hr0
  have he : (V.mk 100 n f s t ks fs).enc = [UInt8.ofNat 100] ++ be f 8 := by simp [V.enc]
  have hl : (V.mk 100 n f s t ks fs).enc.length = 9 := by rw [he]; simp [be_len]
  rw [hl]
  rw [he, List.append_assoc] at h
  have H1 := Lib.hid (val_185 h rfl)
  have hk : num [UInt8.ofNat 100] = 100 := by decide
  rw [hk] at H1
  clear h he hl hk
  go_enter Try.func74, Try.ntmps74
  go_wp2_with fail
  refine H1.out.mono ?_
  rintro e w1 ⟨rfl, k1, r1, b1⟩
  have c1 := k1.cell0
  have z1 := k1.frozen 0
  have HB1 := Lib.hid b1
  have H2 := Lib.hid (val_194 r1 (be_len _ _))
  rw [rd_f64 _ hn] at H2
  clear k1 r1 b1
  go_wp2_with fail
  refine H2.out.mono ?_
  rintro e w2 ⟨rfl, k2, r2, b2⟩
  have c2 := k2.cell0
  have z2 := k2.frozen 0
  have HR2 := Lib.hid r2
  have HB2 := Lib.hid b2
  clear k2 r2 b2
  go_wp2_with fail
  go_ret2
  refine ⟨_, rfl, ?_, ?_, HB1.out.trans HB2.out⟩
  · rw [AnyV]; left; unfold AnyS; simp
  · have := HR2.out; rw [map_sub_sub] at this; exact this

set_option maxRecDepth 100000 in
set_option maxHeartbeats 4000000 in
theorem rl_116_0 (dd : Nat) (f : Nat) (s : Int) (t : ByteArray) (ks : Vs) (fs : Fs) : RLet dd (.mk 116 0 f s t ks fs) := by
  intro w B r ns ys rest S R h
  obtain ⟨T0, a0, hr0⟩ := h.shape
  subst hr0
  have he : (V.mk 116 0 f s t ks fs).enc = [UInt8.ofNat 116] ++ be (u64 0) 1 := by simp [V.enc]
  have hl : (V.mk 116 0 f s t ks fs).enc.length = 2 := by rw [he]; simp [be_len]
  rw [hl]
  rw [he, List.append_assoc] at h
  have H1 := Lib.hid (val_185 h rfl)
  have hk : num [UInt8.ofNat 116] = 116 := by decide
  rw [hk] at H1
  clear h he hl hk
  go_enter Try.func74, Try.ntmps74
  go_wp2_with fail
  refine H1.out.mono ?_
  rintro e w1 ⟨rfl, k1, r1, b1⟩
  have c1 := k1.cell0
  have z1 := k1.frozen 0
  have HB1 := Lib.hid b1
  have H2 := Lib.hid (val_185 r1 (be_len _ _))
  rw [rd_u8 0 (by omega)] at H2
  clear k1 r1 b1
  go_wp2_with fail
  refine H2.out.mono ?_
  rintro e w2 ⟨rfl, k2, r2, b2⟩
  have c2 := k2.cell0
  have z2 := k2.frozen 0
  have HR2 := Lib.hid r2
  have HB2 := Lib.hid b2
  clear k2 r2 b2
  go_wp2_with fail
  go_ret2
  refine ⟨_, rfl, ?_, ?_, HB1.out.trans HB2.out⟩
  · rw [AnyV]; left; unfold AnyS; exact .inl ⟨rfl, false, by simp, rfl⟩
  · have := HR2.out; rw [map_sub_sub] at this; exact this

set_option maxRecDepth 100000 in
set_option maxHeartbeats 4000000 in
theorem rl_116_1 (dd : Nat) (f : Nat) (s : Int) (t : ByteArray) (ks : Vs) (fs : Fs) : RLet dd (.mk 116 1 f s t ks fs) := by
  intro w B r ns ys rest S R h
  obtain ⟨T0, a0, hr0⟩ := h.shape
  subst hr0
  have he : (V.mk 116 1 f s t ks fs).enc = [UInt8.ofNat 116] ++ be (u64 1) 1 := by simp [V.enc]
  have hl : (V.mk 116 1 f s t ks fs).enc.length = 2 := by rw [he]; simp [be_len]
  rw [hl]
  rw [he, List.append_assoc] at h
  have H1 := Lib.hid (val_185 h rfl)
  have hk : num [UInt8.ofNat 116] = 116 := by decide
  rw [hk] at H1
  clear h he hl hk
  go_enter Try.func74, Try.ntmps74
  go_wp2_with fail
  refine H1.out.mono ?_
  rintro e w1 ⟨rfl, k1, r1, b1⟩
  have c1 := k1.cell0
  have z1 := k1.frozen 0
  have HB1 := Lib.hid b1
  have H2 := Lib.hid (val_185 r1 (be_len _ _))
  rw [rd_u8 1 (by omega)] at H2
  clear k1 r1 b1
  go_wp2_with fail
  refine H2.out.mono ?_
  rintro e w2 ⟨rfl, k2, r2, b2⟩
  have c2 := k2.cell0
  have z2 := k2.frozen 0
  have HR2 := Lib.hid r2
  have HB2 := Lib.hid b2
  clear k2 r2 b2
  go_wp2_with fail
  go_ret2
  refine ⟨_, rfl, ?_, ?_, HB1.out.trans HB2.out⟩
  · rw [AnyV]; left; unfold AnyS; exact .inl ⟨rfl, true, by simp, rfl⟩
  · have := HR2.out; rw [map_sub_sub] at this; exact this

set_option maxRecDepth 100000 in
set_option maxHeartbeats 4000000 in
theorem rl_66 (dd : Nat) (n : Int) (f : Nat) (s : Int) (t : ByteArray) (ks : Vs) (fs : Fs) (hn : 0 ≤ n ∧ n ≤ 255) : RLet dd (.mk 66 n f s t ks fs) := by
  intro w B r ns ys rest S R h
  obtain ⟨T0, a0, hr0⟩ := h.shape
  subst hr0
  have he : (V.mk 66 n f s t ks fs).enc = [UInt8.ofNat 66] ++ be (u64 n) 1 := by simp [V.enc]
  have hl : (V.mk 66 n f s t ks fs).enc.length = 2 := by rw [he]; simp [be_len]
  rw [hl]
  rw [he, List.append_assoc] at h
  have H1 := Lib.hid (val_185 h rfl)
  have hk : num [UInt8.ofNat 66] = 66 := by decide
  rw [hk] at H1
  clear h he hl hk
  go_enter Try.func74, Try.ntmps74
  go_wp2_with fail
  refine H1.out.mono ?_
  rintro e w1 ⟨rfl, k1, r1, b1⟩
  have c1 := k1.cell0
  have z1 := k1.frozen 0
  have HB1 := Lib.hid b1
  have ra := r1.alloc (.cells #[.int .u8 0] 186)
  have hf := readFull_any (G := 186) (w := w1.alloc (.cells #[.int .u8 0] 186)) (g := w1.heap.size) (o := 0) (m := 1) (c := 1) (cs := #[.int .u8 0]) ra.rr ra.small (Blk.new w1 186 _) r1.base (Nat.le_refl _) (by omega) (by simp) ra.len
  have HF := Lib.hid hf
  have HR1 := Lib.hid r1
  have hav := r1.av
  rw [List.length_append, be_len] at hav
  clear k1 r1 b1 ra hf
  go_wp2_with fail
  refine HF.out.mono ?_
  rintro e w2 hp
  obtain ⟨rfl, k2, r2, b2⟩ := fullpost_ok hp (by have := hav; omega)
  have e1 : ((be (u64 n) 1 ++ ys) ++ rest).take 1 = be (u64 n) 1 := by
    rw [List.append_assoc]
    have := List.take_left (l₁ := be (u64 n) 1) (l₂ := ys ++ rest)
    rwa [be_len] at this
  have e2 : ((be (u64 n) 1 ++ ys) ++ rest).drop 1 = ys ++ rest := by
    rw [List.append_assoc]
    have := List.drop_left (l₁ := be (u64 n) 1) (l₂ := ys ++ rest)
    rwa [be_len] at this
  have hb : bcells (be (u64 n) 1) = [.int .u8 n] := by
    have h1 := rd_u8 n hn
    rw [num_1] at h1
    rw [be1]
    simp only [bcells, List.map, toNat_ofNat8]
    rw [h1]
  have k2' : Blk w2 w1.heap.size 186 #[.int .u8 n] := by
    rw [e1] at k2
    unfold spl at k2
    rw [hb] at k2
    simpa using k2
  have hsz := b2.size
  simp at hsz
  have r2' : Rdy w2 B (.iface T0 (.pointer (some a0))) (ns.map (· - 2)) ys rest S R := by
    have := HR1.out.next (w1 := w2) (by rw [be_len]; rw [e2] at r2; exact r2) (by omega)
    rw [be_len, map_sub_sub] at this
    exact this
  have c2 := k2'.cell0
  have z2 := k2'.frozen 0
  have HR2 := Lib.hid r2'
  have HB2 := Lib.hid ((HB1.out.alloc (.cells #[.int .u8 0] 186)).weaken b2 (fun x hx => by
    rcases List.mem_cons.1 hx with e | e
    · exact .inr (by have := HB1.out.size; omega)
    · exact .inl e))
  clear k2 r2 b2 e1 e2 hb k2' r2' hp
  go_wp2_with fail
  go_ret2
  refine ⟨_, rfl, ?_, HR2.out, HB2.out⟩
  rw [AnyV]; left; unfold AnyS; simp

set_option maxRecDepth 100000 in
set_option maxHeartbeats 4000000 in
theorem rl_86 (dd : Nat) (n : Int) (f : Nat) (s : Int) (t : ByteArray) (ks : Vs) (fs : Fs) : RLet dd (.mk 86 n f s t ks fs) := by
  intro w B r ns ys rest S R h
  obtain ⟨T0, a0, hr0⟩ := h.shape
  subst hr0
  have he : (V.mk 86 n f s t ks fs).enc = [UInt8.ofNat 86] ++ [] := by simp [V.enc]
  have hl : (V.mk 86 n f s t ks fs).enc.length = 1 := by rw [he]; rfl
  rw [hl]
  rw [he, List.append_assoc] at h
  have H1 := Lib.hid (val_185 h rfl)
  have hk : num [UInt8.ofNat 86] = 86 := by decide
  rw [hk] at H1
  clear h he hl hk
  go_enter Try.func74, Try.ntmps74
  go_wp2_with fail
  refine H1.out.mono ?_
  rintro e w1 ⟨rfl, k1, r1, b1⟩
  have c1 := k1.cell0
  have z1 := k1.frozen 0
  have HB1 := Lib.hid b1
  rw [List.nil_append] at r1
  have HR1 := Lib.hid r1
  clear k1 r1 b1
  go_wp2_with fail
  go_ret2
  refine ⟨_, rfl, ?_, HR1.out, HB1.out⟩
  rw [AnyV]; left; unfold AnyS; simp

set_option maxRecDepth 100000 in
set_option maxHeartbeats 4000000 in
theorem rl_68 (dd : Nat) (n : Int) (f : Nat) (s : Int) (t : ByteArray) (ks : Vs) (fs : Fs) (hn : (0 ≤ s ∧ s ≤ 255) ∧ -2147483648 ≤ n ∧ n ≤ 2147483647) : RLet dd (.mk 68 n f s t ks fs) := by
  intro w B r ns ys rest S R h
  obtain ⟨T0, a0, hr0⟩ := h.shape
  subst hr0
  have he : (V.mk 68 n f s t ks fs).enc = [UInt8.ofNat 68] ++ (be (u64 s) 1 ++ be (u64 n) 4) := by simp [V.enc]
  have hl : (V.mk 68 n f s t ks fs).enc.length = 6 := by rw [he]; simp [be_len]
  rw [hl]
  rw [he, List.append_assoc] at h
  have H1 := Lib.hid (val_185 h rfl)
  have hk : num [UInt8.ofNat 68] = 68 := by decide
  rw [hk] at H1
  clear h he hl hk
  go_enter Try.func74, Try.ntmps74
  go_wp2_with fail
  refine H1.out.mono ?_
  rintro e w1 ⟨rfl, k1, r1, b1⟩
  have c1 := k1.cell0
  have z1 := k1.frozen 0
  have HB1 := Lib.hid b1
  have H2 := Lib.hid (decimal_ok (by rw [List.append_assoc] at r1; exact r1) hn.1 hn.2)
  clear k1 r1 b1
  go_wp2_with fail
  refine H2.out.mono ?_
  rintro e w2 ⟨rfl, r2, b2⟩
  have HR2 := Lib.hid r2
  have HB2 := Lib.hid b2
  clear r2 b2
  go_wp2_with fail
  go_ret2
  refine ⟨_, rfl, ?_, ?_, HB1.out.trans HB2.out⟩
  · rw [AnyV]; left; unfold AnyS; simp
  · have := HR2.out; rw [map_sub_sub] at this; exact this

set_option maxRecDepth 100000 in
set_option maxHeartbeats 4000000 in
theorem rl_84 (dd : Nat) (n : Int) (f : Nat) (s : Int) (t : ByteArray) (ks : Vs) (fs : Fs) (hn : 0 ≤ n ∧ n < 1099511627776) : RLet dd (.mk 84 n f s t ks fs) := by
  intro w B r ns ys rest S R h
  obtain ⟨T0, a0, hr0⟩ := h.shape
  subst hr0
  have he : (V.mk 84 n f s t ks fs).enc = [UInt8.ofNat 84] ++ be (u64 n) 8 := by simp [V.enc]
  have hl : (V.mk 84 n f s t ks fs).enc.length = 9 := by rw [he]; simp [be_len]
  rw [hl]
  rw [he, List.append_assoc] at h
  have H1 := Lib.hid (val_185 h rfl)
  have hk : num [UInt8.ofNat 84] = 84 := by decide
  rw [hk] at H1
  clear h he hl hk
  go_enter Try.func74, Try.ntmps74
  go_wp2_with fail
  refine H1.out.mono ?_
  rintro e w1 ⟨rfl, k1, r1, b1⟩
  have c1 := k1.cell0
  have z1 := k1.frozen 0
  have HB1 := Lib.hid b1
  have H2 := Lib.hid (time_ok r1 hn)
  clear k1 r1 b1
  go_wp2_with fail
  refine H2.out.mono ?_
  rintro e w2 ⟨rfl, r2, b2⟩
  have HR2 := Lib.hid r2
  have HB2 := Lib.hid b2
  clear r2 b2
  go_wp2_with fail
  go_ret2
  refine ⟨_, rfl, ?_, ?_, HB1.out.trans HB2.out⟩
  · rw [AnyV]; left; unfold AnyS; simp
  · have := HR2.out; rw [map_sub_sub] at this; exact this

set_option maxRecDepth 100000 in
set_option maxHeartbeats 4000000 in
theorem rl_83 (dd : Nat) (n : Int) (f : Nat) (s : Int) (t : ByteArray) (ks : Vs) (fs : Fs) (hn : t.size ≤ 2000) : RLet dd (.mk 83 n f s t ks fs) := by
  intro w B r ns ys rest S R h
  obtain ⟨T0, a0, hr0⟩ := h.shape
  subst hr0
  have he : (V.mk 83 n f s t ks fs).enc = [UInt8.ofNat 83] ++ (be t.size 4 ++ t.data.toList) := by simp [V.enc]
  have hl : (V.mk 83 n f s t ks fs).enc.length = 5 + t.size := by rw [he]; simp [be_len]; show 4 + t.size + 1 = _; omega
  rw [hl]
  rw [he, List.append_assoc] at h
  have H1 := Lib.hid (val_185 h rfl)
  have hk : num [UInt8.ofNat 83] = 83 := by decide
  rw [hk] at H1
  clear h he hl hk
  go_enter Try.func74, Try.ntmps74
  go_wp2_with fail
  refine H1.out.mono ?_
  rintro e w1 ⟨rfl, k1, r1, b1⟩
  have c1 := k1.cell0
  have z1 := k1.frozen 0
  have HB1 := Lib.hid b1
  have H2 := Lib.hid (long_ok r1 (by omega))
  clear k1 r1 b1
  go_wp2_with fail
  refine H2.out.mono ?_
  rintro e w2 ⟨rfl, r2, b2⟩
  have HR2 := Lib.hid r2
  have HB2 := Lib.hid b2
  clear r2 b2
  go_wp2_with fail
  go_ret2
  refine ⟨_, rfl, ?_, ?_, HB1.out.trans HB2.out⟩
  · rw [AnyV]; left; unfold AnyS; simp
  · have := HR2.out; rw [map_sub_sub] at this; rw [show 1 + (4 + t.size) = 5 + t.size by omega] at this; exact this

set_option maxRecDepth 100000 in
set_option maxHeartbeats 4000000 in
theorem rl_120 (dd : Nat) (n : Int) (f : Nat) (s : Int) (t : ByteArray) (ks : Vs) (fs : Fs) (hn : t.size ≤ 2000) : RLet dd (.mk 120 n f s t ks fs) := by
  intro w B r ns ys rest S R h
  obtain ⟨T0, a0, hr0⟩ := h.shape
  subst hr0
  have he : (V.mk 120 n f s t ks fs).enc = [UInt8.ofNat 120] ++ (be t.size 4 ++ t.data.toList) := by simp [V.enc]
  have hl : (V.mk 120 n f s t ks fs).enc.length = 5 + t.size := by rw [he]; simp [be_len]; show 4 + t.size + 1 = _; omega
  rw [hl]
  rw [he, List.append_assoc] at h
  have H1 := Lib.hid (val_185 h rfl)
  have hk : num [UInt8.ofNat 120] = 120 := by decide
  rw [hk] at H1
  clear h he hl hk
  go_enter Try.func74, Try.ntmps74
  go_wp2_with fail
  refine H1.out.mono ?_
  rintro e w1 ⟨rfl, k1, r1, b1⟩
  have c1 := k1.cell0
  have z1 := k1.frozen 0
  have HB1 := Lib.hid b1
  rw [List.append_assoc] at r1
  have H2 := Lib.hid (val_190 r1 (be_len _ _))
  rw [i32_len t.size (by omega)] at H2
  have e0 : t.data.toList.length = t.size := by rw [Array.length_toList]; rfl
  have HE0 := Lib.hid e0
  clear k1 r1 b1 e0
  go_wp2_with fail
  refine H2.out.mono ?_
  rintro e w2 ⟨rfl, k2, r2, b2⟩
  have c2 := k2.cell0
  have z2 := k2.frozen 0
  have H3 := Lib.hid (bytes_ok r2 HE0.out (by omega))
  have HB2 := Lib.hid b2
  have hw : IntKind.i64.wrap ((t.size : Nat) : Int) = (t.size : Int) := IntWalk.i64_in _ (by omega)
  have hneg : ¬ ((t.size : Int) < 0) := by omega
  clear k2 r2 b2
  go_wp2_with fail
  refine H3.out.mono ?_
  rintro e w3 ⟨g, c, cs, rfl, g3, ht3, hg0, hnc, r3, b3⟩
  have HR3 := Lib.hid r3
  have HT3 := Lib.hid ht3
  have HG3 := Lib.hid g3
  have HB3 := Lib.hid b3
  clear r3 ht3 g3 b3
  go_wp2_with fail
  go_ret2
  refine ⟨_, rfl, ?_, ?_, (HB1.out.trans HB2.out).trans HB3.out⟩
  · rw [AnyV]
    refine .inr (.inl ⟨rfl, _, c, rfl, hnc, fun _ => ⟨g, 0, rfl, ⟨by have := HB1.out.size; have := HB2.out.size; omega, HG3.out.lt⟩, fun j u hu => ?_⟩⟩)
    have hj : j < t.size := by
      have := (List.getElem?_eq_some_iff.1 hu).1
      rwa [bcells_length, HE0.out] at this
    rw [Nat.zero_add, HG3.out.cell j, ← hu, ← HT3.out, List.getElem?_take_of_lt hj, Array.getElem?_toList]
  · have := HR3.out
    rw [map_sub_sub, map_sub_sub, show 1 + (4 + t.size) = 5 + t.size by omega] at this
    exact this

set_option maxRecDepth 100000 in
set_option maxHeartbeats 4000000 in
theorem rl_65 (dd : Nat) (n : Int) (f : Nat) (s : Int) (t : ByteArray) (ks : Vs) (fs : Fs) (hd : dd ≤ 100) (hA : RArr (dd + 1) ks) : RLet dd (.mk 65 n f s t ks fs) := by
  intro w B r ns ys rest S R h
  obtain ⟨T0, a0, hr0⟩ := h.shape
  subst hr0
  have he : (V.mk 65 n f s t ks fs).enc = [UInt8.ofNat 65] ++ (be ks.enc.length 4 ++ ks.enc) := by simp [V.enc]
  have hl : (V.mk 65 n f s t ks fs).enc.length = 5 + ks.enc.length := by rw [he]; simp [be_len]; omega
  rw [hl]
  rw [he, List.append_assoc] at h
  have H1 := Lib.hid (val_185 h rfl)
  have hk : num [UInt8.ofNat 65] = 65 := by decide
  rw [hk] at H1
  clear h he hl hk
  go_enter Try.func74, Try.ntmps74
  go_wp2_with fail
  refine H1.out.mono ?_
  rintro e w1 ⟨rfl, k1, r1, b1⟩
  have c1 := k1.cell0
  have z1 := k1.frozen 0
  have HB1 := Lib.hid b1
  have h2 := hA _ _ _ _ _ _ _ _ r1
  rw [show (((dd + 1 : Nat) : Nat) : Int) = (dd : Int) + 1 by omega] at h2
  have H2 := Lib.hid h2
  clear k1 r1 b1 hA h2
  go_wp2_with fail
  refine H2.out.mono ?_
  rintro e w2 ⟨A, c, xs, rfl, hc, hRd, hAs, r2, b2⟩
  have HR2 := Lib.hid r2
  have HB2 := Lib.hid b2
  have HRd := Lib.hid hRd
  have HAs := Lib.hid hAs
  clear r2 b2 hRd hAs
  go_wp2_with fail
  go_ret2
  have hsz := HB1.out.size
  refine ⟨_, rfl, ?_, ?_, HB1.out.trans HB2.out⟩
  · rw [AnyV]
    exact .inr (.inr (.inl ⟨rfl, A, c, xs, rfl, hc, HRd.out.more (fun g hg => hg.mono hsz), HAs.out.keep (fun _ _ => rfl) (fun g hg => hg.mono hsz)⟩))
  · have := HR2.out
    rw [map_sub_sub, show 1 + (4 + ks.enc.length) = 5 + ks.enc.length by omega] at this
    exact this

set_option maxRecDepth 100000 in
set_option maxHeartbeats 4000000 in
theorem rl_70 (dd : Nat) (n : Int) (f : Nat) (s : Int) (t : ByteArray) (ks : Vs) (fs : Fs) (hd : dd ≤ 100) (hT : RTab (dd + 1) fs) : RLet dd (.mk 70 n f s t ks fs) := by
  intro w B r ns ys rest S R h
  obtain ⟨T0, a0, hr0⟩ := h.shape
  subst hr0
  have he : (V.mk 70 n f s t ks fs).enc = [UInt8.ofNat 70] ++ tab fs := by simp [V.enc, tab]
  have hl : (V.mk 70 n f s t ks fs).enc.length = 5 + fs.enc.length := by rw [he]; simp [tab, be_len]; omega
  rw [hl]
  rw [he, List.append_assoc] at h
  have H1 := Lib.hid (val_185 h rfl)
  have hk : num [UInt8.ofNat 70] = 70 := by decide
  rw [hk] at H1
  clear h he hl hk
  go_enter Try.func74, Try.ntmps74
  go_wp2_with fail
  refine H1.out.mono ?_
  rintro e w1 ⟨rfl, k1, r1, b1⟩
  have c1 := k1.cell0
  have z1 := k1.frozen 0
  have HB1 := Lib.hid b1
  have h2 := hT _ _ _ _ _ _ _ _ r1
  rw [show (((dd + 1 : Nat) : Nat) : Int) = (dd : Int) + 1 by omega] at h2
  have H2 := Lib.hid h2
  clear k1 r1 b1 hT h2
  go_wp2_with fail
  refine H2.out.mono ?_
  rintro e w2 ⟨b, rfl, hTab, r2, b2⟩
  have HR2 := Lib.hid r2
  have HB2 := Lib.hid b2
  have HTab := Lib.hid hTab
  clear r2 b2 hTab
  go_wp2_with fail
  go_ret2
  have hsz := HB1.out.size
  refine ⟨_, rfl, ?_, ?_, HB1.out.trans HB2.out⟩
  · rw [AnyV]
    obtain ⟨D, d1, d2, d3⟩ := HTab.out.keep (w1 := w2) (q := New w w2) (fun _ _ => rfl) (fun g hg => hg.mono hsz)
    exact .inr (.inr (.inr ⟨rfl, b, D, rfl, d1, d2, d3⟩))
  · have := HR2.out
    rw [map_sub_sub, show 1 + (4 + fs.enc.length) = 5 + fs.enc.length by omega] at this
    exact this

set_option maxRecDepth 100000 in
set_option maxHeartbeats 4000000 in
/-- readFieldDepth at the end of what can be read -/
theorem field_eof {w : World} {B : Nat} {r : Value} {ns : List Nat} {ys : List UInt8} {S : List Nat} {R : Option Nat} (dd : Nat) (h : Rr w B r ns ys S R) (hs : Small ns) (hys : ys.length ≤ 1000000000) (hz : avail ns ys = 0) (hRl : ∀ x, R = some x → x < w.heap.size) (hB : B ≤ w.heap.size) :
    Calls Try.prog 74 #[r, .int .i64 dd] w fun e w' => e = .returned (.tuple #[.nilIface, eofV]) ∧ Rr w' B r ns ys S R ∧ But w w' S := by
  obtain ⟨T0, a0, hr0⟩ := h.shape
  subst hr0
  have hS : w.heap.size ∉ S := fun hm => by have := h.lt _ hm; omega
  have hR : R ≠ some w.heap.size := fun e => by have := hRl _ e; omega
  have H1 := Lib.hid (rf_185 (q := 0) (h.alloc hB (.cells #[.int .u8 0] 5) hRl) hs hys (Blk.new w 5 _) rfl rfl hS hR (fun x hx => by have := hRl x hx; simp; omega) (by simp; omega))
  have HZ := Lib.hid hz
  clear h hz hS hR
  go_enter Try.func74, Try.ntmps74
  go_wp2_with fail
  refine H1.out.mono ?_
  rintro e w1 (⟨h0, _⟩ | ⟨_, s, rfl, _, h2, _, h4⟩)
  · exfalso
    have := HZ.out
    omega
  · obtain ⟨rfl, h3⟩ := h2 HZ.out
    have hen := fun w => eof_nil ⟨#[69, 79, 70]⟩ w
    have HR3 := Lib.hid h3
    have HB := Lib.hid (((But.refl w S).alloc (.cells #[.int .u8 0] 5)).weaken h4 (fun x hx => by
      rcases List.mem_cons.1 hx with e | e
      · exact .inr (by omega)
      · exact .inl e))
    clear h2 h3 h4
    go_wp2_with fail
    go_ret2
    exact ⟨rfl, HR3.out, HB.out⟩

end Go.Proofs.Ytkcdakohmfodjaa
