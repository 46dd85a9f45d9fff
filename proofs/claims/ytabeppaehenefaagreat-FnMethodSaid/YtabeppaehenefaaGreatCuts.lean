/-
  The statements' own cut of an input: value, fields, table.
-/
import Derived.Test.YtabeppaehenefaaGreatWb
import Derived.Test.YtabeppaehenefaaGreatWe
import Derived.Test.YtabeppaehenefaaGreatRead
namespace Go.Proofs.YtabeppaehenefaaGreat
open Go.RowKit
set_option linter.unusedVariables false
attribute [local go_sem ↓] Go.wp_at_zero Go.wp_at_succ

@[go_sem] theorem run_store_float (P : Program) (w : World) (a : Addr) (m : Mode) (k : FloatKind) (b : Nat) : (store a (.float k b) m).run P w = stored P w a (.float k b) m := run_store P w a _ m rfl

theorem info88 : (Tryz.prog.info? 275).map (fun i => (i.zero, i.size, i.bytes)) = some (some (.agg #[.string ⟨#[]⟩, .int .u8 0, .int .i64 0, .float .f64 0, .int .i64 0, .string ⟨#[]⟩, .slice none 0 0, .slice none 0 0]), 8, 112) := by kernel_rfl
theorem info85 : (Tryz.prog.info? 273).map (fun i => (i.zero, i.size, i.bytes)) = some (some (.agg #[.int .u8 0, .int .i64 0, .float .f64 0, .int .i64 0, .string ⟨#[]⟩, .slice none 0 0, .slice none 0 0]), 7, 96) := by kernel_rfl

mutual
/-- each value costs at least one -/
theorem V.cut_dec : ∀ (v : V) (d : Nat) (r : Int), (v.cut d r).2 + 1 ≤ r
  | .mk k n f s t ks fs, d, r => by
    have hV := Vs.cut_dec ks
    have hF := Fs.cut_dec fs
    rw [V.cut]
    by_cases hc : r - (1 + (t.size : Int)) < 0 ∨ d = 0
    · rw [if_pos hc]; simp only; omega
    rw [if_neg hc]
    have a := hF (d - 1) (r - (1 + t.size))
    generalize fs.cutO (d - 1) (r - (1 + t.size)) = cf at a ⊢
    obtain ⟨fs', r2⟩ := cf
    simp only at a ⊢
    have b := hV (d - 1) r2
    generalize ks.cut (d - 1) r2 = ck at b ⊢
    obtain ⟨ks', r3⟩ := ck
    cases ks' <;> simp only at b ⊢ <;> omega
theorem Vs.cut_dec : ∀ (ks : Vs) (d : Nat) (r : Int), (ks.cut d r).2 ≤ r
  | .nil, d, r => by rw [Vs.cut]; exact Int.le_refl _
  | .cons v q, d, r => by
    have hV := V.cut_dec v
    have hQ := Vs.cut_dec q
    rw [Vs.cut]
    by_cases h0 : r < 0
    · rw [if_pos h0]; exact Int.le_refl _
    rw [if_neg h0]
    have a := hV d r
    generalize v.cut d r = c at a ⊢
    obtain ⟨v', r1⟩ := c
    simp only at a ⊢
    have b := hQ d r1
    generalize q.cut d r1 = c at b ⊢
    obtain ⟨q', r2⟩ := c
    cases q' <;> simp only at b ⊢ <;> omega
theorem Fs.cut_dec : ∀ (fs : Fs) (d : Nat) (r : Int), (fs.cutO d r).2 ≤ r
  | .nil, d, r => by rw [Fs.cutO]; exact Int.le_refl _
  | .cons name v q, d, r => by
    have hV := V.cut_dec v
    have hQ := Fs.cut_dec q
    rw [Fs.cutO]
    have a := hV d (r - name.size)
    generalize v.cut d (r - name.size) = c at a ⊢
    obtain ⟨v', r1⟩ := c
    simp only at a ⊢
    by_cases h0 : r1 < 0
    · rw [if_pos h0]; simp only; omega
    rw [if_neg h0]
    have b := hQ d r1
    generalize q.cutO d r1 = c at b ⊢
    obtain ⟨q', r2⟩ := c
    cases q' <;> simp only at b ⊢ <;> omega
end

/-- blocks made between the two worlds -/
def New (w w' : World) (g : Nat) : Prop := w.heap.size ≤ g ∧ g < w'.heap.size

abbrev vcells (k n : Int) (f : Nat) (s : Int) (t : ByteArray) (a1 : Option Addr) (n1 c1 : Nat) (a2 : Option Addr) (n2 c2 : Nat) : List Value :=
  [.int .u8 k, .int .i64 n, .float .f64 f, .int .i64 s, .string t, .slice a1 n1 c1, .slice a2 n2 c2]

def ValueC (d : Nat) : Prop := ∀ (k n : Int) (f : Nat) (s : Int) (t : ByteArray) (ks : Vs) (fs : Fs) (a1 : Option Addr) (c1 : Nat) (a2 : Option Addr) (c2 : Nat) (xs ys : List Value) (p : Nat → Prop) (r : Int) (rb : Nat) (w : World),
  (V.mk k n f s t ks fs).ok → Rd w p a1 xs → VsC w p ks xs → ks.len ≤ c1 → Rd w p a2 ys → FsC w p fs ys → fs.len ≤ c2 → (∀ g, p g → g < w.heap.size ∧ g ≠ rb) → Blk w rb 3 #[.int .i64 r] → -140737488355328 ≤ r → r ≤ 200000 →
  Calls Tryz.prog 34 #[.agg (vcells k n f s t a1 ks.len c1 a2 fs.len c2).toArray, .int .i64 d, .pointer (some ⟨rb, 0, none⟩)] w fun e w' =>
    ∃ rc, e = .returned (.agg rc.toArray) ∧ RdV w' (New w w') ((V.mk k n f s t ks fs).cut d r).1 rc ∧ Blk w' rb 3 #[.int .i64 ((V.mk k n f s t ks fs).cut d r).2] ∧ But w w' [rb]

def FieldsC (d : Nat) : Prop := ∀ (fs : Fs) (A : Option Addr) (c : Nat) (xs : List Value) (p : Nat → Prop) (r : Int) (rb : Nat) (w : World),
  fs.ok → fs.len ≤ 140737488355328 → Rd w p A xs → FsC w p fs xs → fs.len ≤ c → (∀ g, p g → g < w.heap.size ∧ g ≠ rb) → Blk w rb 3 #[.int .i64 r] → 0 ≤ r → r ≤ 200000 →
  Calls Tryz.prog 24 #[.slice A fs.len c, .int .i64 d, .pointer (some ⟨rb, 0, none⟩)] w fun e w' =>
    ∃ A' c' ys, e = .returned (.slice A' (fs.cut d r).len c') ∧ Rd w' (New w w') A' ys ∧ FsC w' (New w w') (fs.cut d r) ys ∧ (fs.cut d r).len ≤ c' ∧ Blk w' rb 3 #[.int .i64 (fs.cutO d r).2] ∧ But w w' [rb]

theorem But.grown {w w1 w2 : World} {S : List Nat} {row : Option Nat} (h : But w w1 S) (k : w1.grownBy w2 row) (hr : ∀ g, row = some g → g ∈ S ∨ w.heap.size ≤ g) : But w w2 S :=
  ⟨k.os.trans h.os, k.tape.trans h.tape, k.output.trans h.output, Nat.le_trans h.size k.size, fun i hi hs => (k.block i (Nat.lt_of_lt_of_le hi h.size) (fun e => by
    rcases hr i e.symm with e | e
    · exact hs e
    · omega)).trans (h.block i hi hs)⟩

theorem src88 (w2 : World) (name : ByteArray) (k n : Int) (f : Nat) (s : Int) (t : ByteArray) (a1 : Option Addr) (n1 c1 : Nat) (a2 : Option Addr) (n2 c2 : Nat) :
    Src Tryz.prog 8 42 (.slice (some ⟨w2.heap.size, 0, none⟩) 1 1) 1 (.string name :: vcells k n f s t a1 n1 c1 a2 n2 c2) (w2.alloc (.cells (.string name :: vcells k n f s t a1 n1 c1 a2 n2 c2).toArray 275)) :=
  Src.ofSlice _ Tryz.underlying42 ⟨w2.heap.size, 0, none⟩ 1 1 _ rfl (by have := World.news_of_block (Blk.new w2 275 (.string name :: vcells k n f s t a1 n1 c1 a2 n2 c2).toArray); simpa using this) (by intro u hu; simp at hu; rcases hu with rfl | rfl | rfl | rfl | rfl | rfl | rfl | rfl <;> rfl)

set_option maxRecDepth 100000 in
set_option maxHeartbeats 4000000 in
theorem fields_of_value (d : Nat) (hd : d ≤ 10) (hV : ValueC d) : FieldsC d := by
  intro fs A c xs p r rb w hok hlen hRd hF hc hp hrb hr0 hr1
  have HV := Lib.hid hV
  have Hok := Lib.hid hok
  have HR := Lib.hid hRd
  have HF := Lib.hid hF
  have HP := Lib.hid hp
  clear hV hok hRd hF hp
  obtain ⟨i1, hi1, hz1, hs1, hb1⟩ := info_parts info88
  go_enter Tryz.func24, Tryz.ntmps24
  go_wp2_with fail
  go_loopw [12, 7] (fun i sv wr => ∃ (k : Nat) (acc rest : Fs) (ρ : Int) (cs : List Value), i = .int .i64 k ∧ acc.len = k ∧ rest.len + k = fs.len ∧ rest.ok ∧ 0 ≤ ρ ∧ k + ρ ≤ 200000 ∧ acc.join (rest.cutO d ρ) = fs.cutO d r ∧ FsC w p rest (xs.drop (k * 8)) ∧
    wr.ownsRow w.heap.size 275 8 sv k cs ∧ FsC wr (fun g => New w wr g ∧ some g ≠ sv.ownBlock) acc cs ∧ Blk wr rb 3 #[.int .i64 ρ] ∧ But w wr [rb]) (fun i _ _ => fs.len - (intOf i).toNat)
  case atStart =>
    exact ⟨0, .nil, fs, r, [], rfl, rfl, rfl, Hok.out, hr0, by omega, Fs.join_nil _, by simpa using HF.out, World.ownsRow_nil _ _ _ _, by rw [FsC], hrb, But.refl _ _⟩
  case round =>
    obtain ⟨k, acc, rest, ρ, cs, rfl, hacc, hrest, hrok, hρ0, hρ1, hjoin, hrF, hown, hcs, hroom, hbut⟩ := hrel
    have HJ := Lib.hid hjoin
    have HC := Lib.hid hcs
    clear hjoin hcs
    cases rest with
    | nil =>
      rw [Fs.len] at hrest
      have hkl : k = fs.len := by omega
      obtain ⟨A6, c6, rfl⟩ := own_shape hown
      go_wp2
      go_ret
      have hcut : fs.cut d r = acc ∧ (fs.cutO d r).2 = ρ := by
        unfold Fs.cut
        rw [← HJ.out, Fs.cutO, Fs.join, Fs.app_nil]
        exact ⟨rfl, rfl⟩
      rw [hcut.1, hcut.2, hacc]
      obtain ⟨x1, x2⟩ := Rd.of_own (p := New w wr) hown (fun g _ h1 h2 => ⟨h1, h2⟩)
      exact ⟨A6, c6, cs, rfl, x1, HC.out.more (fun g h => h.1), x2, hroom, hbut⟩
    | cons name v q =>
      obtain ⟨vk, vn, vf, vs, vt, vks, vfs⟩ := v
      rw [Fs.len] at hrest
      obtain ⟨b, off, a1, c1, a2, c2, ys, zs, rfl, hpb, e0, e1, e2, e3, e4, e5, e6, e7, x1, x2, x3, x4, x5, x6, x7⟩ := FsC.at_ HR.out hrF
      have hkeep : ∀ g, p g → wr.heap[g]? = w.heap[g]? := fun g hg => hbut.block g (HP.out g hg).1 (by simpa using (HP.out g hg).2)
      have hb' := hkeep b hpb
      rw [← World.cell?_of_block (w := w) (w' := wr) (a := ⟨b, off + k * 8, none⟩) hb'] at e0
      rw [← World.cell?_of_block (w := w) (w' := wr) (a := ⟨b, off + k * 8 + 1, none⟩) hb'] at e1
      rw [← World.cell?_of_block (w := w) (w' := wr) (a := ⟨b, off + k * 8 + 2, none⟩) hb'] at e2
      rw [← World.cell?_of_block (w := w) (w' := wr) (a := ⟨b, off + k * 8 + 3, none⟩) hb'] at e3
      rw [← World.cell?_of_block (w := w) (w' := wr) (a := ⟨b, off + k * 8 + 4, none⟩) hb'] at e4
      rw [← World.cell?_of_block (w := w) (w' := wr) (a := ⟨b, off + k * 8 + 5, none⟩) hb'] at e5
      rw [← World.cell?_of_block (w := w) (w' := wr) (a := ⟨b, off + k * 8 + 6, none⟩) hb'] at e6
      rw [← World.cell?_of_block (w := w) (w' := wr) (a := ⟨b, off + k * 8 + 7, none⟩) hb'] at e7
      have hk0 : (0 : Int) ≤ (k : Int) := by omega
      have hk1 : (k : Int) < (fs.len : Int) := by omega
      have q0 := hroom.cell0
      have q1 := hroom.frozen 0
      rw [Fs.ok] at hrok
      obtain ⟨o1, o2, o3⟩ := hrok
      have hns : name.size ≤ 140737488355328 := o1
      go_wp2_with fail
      obtain ⟨sv, rfl⟩ : ∃ sv : Value, sv = u7 := ⟨_, rfl⟩
      obtain ⟨cells, hcells⟩ : ∃ cells : List Value, cells = .string name :: vcells vk vn vf vs vt a1 vks.len c1 a2 vfs.len c2 := ⟨_, rfl⟩
      have hroom1 := hroom.alloc (.cells cells.toArray 94)
      have hx1 := Blk.new wr 94 cells.toArray
      have hown1 := hown.alloc (.cells cells.toArray 94)
      have hbut1 := hbut.alloc (.cells cells.toArray 94)
      have hcs1 : FsC (wr.alloc (.cells cells.toArray 94)) (fun g => New w wr g ∧ some g ≠ sv.ownBlock) acc cs := HC.out.keep fun g hg => Below.heap_alloc _ _ _ hg.1.2
      have hne : rb ≠ wr.heap.size := by have := hroom.lt; omega
      have hsz1 : (wr.alloc (.cells cells.toArray 94)).heap.size = wr.heap.size + 1 := by simp
      have hrow1 : ∀ g, sv.ownBlock = some g → w.heap.size ≤ g ∧ g < wr.heap.size := fun g hg => hown.lt g hg
      have hcs1' : FsC (wr.alloc (.cells cells.toArray 94)) (fun g => (w.heap.size ≤ g ∧ g < wr.heap.size) ∧ some g ≠ sv.ownBlock) acc cs := hcs1
      have hwX := hbut.size
      clear hcs1
      rw [hcells] at hroom1 hx1 hown1 hbut1 hcs1' hsz1
      generalize wr.alloc (.cells (Value.string name :: vcells vk vn vf vs vt a1 vks.len c1 a2 vfs.len c2).toArray 94) = wx at hroom1 hx1 hown1 hbut1 hcs1' hsz1 ⊢
      generalize hX : wr.heap.size = X at hroom1 hx1 hown1 hbut1 hcs1' hsz1 hne hrow1 hwX ⊢
      have HC1 := Lib.hid hcs1'
      clear hcs1'
      have q0 := hroom1.cell0
      have q1 := hroom1.frozen 0
      have x0 : wx.cell? ⟨X, 0, none⟩ = some (.string name) := by rw [hx1.cell]; rfl
      go_region
      clear q0 q1 x0
      have hroom2 : Blk (wx.setCell ⟨rb, 0, none⟩ (.int .i64 (ρ - name.size))).drew rb 3 #[.int .i64 (ρ - name.size)] := by
        have := (hroom1.set_ 0 (.int .i64 (ρ - name.size))).drew; simpa using this
      have hx2 : Blk (wx.setCell ⟨rb, 0, none⟩ (.int .i64 (ρ - name.size))).drew X 94 (Value.string name :: vcells vk vn vf vs vt a1 vks.len c1 a2 vfs.len c2).toArray := (hx1.far (by simpa using fun e => hne e.symm) _).drew
      have hown2 : (wx.setCell ⟨rb, 0, none⟩ (.int .i64 (ρ - name.size))).drew.ownsRow w.heap.size 275 8 sv k cs :=
        own_keep hown1 fun g hg => Below.heap_setCell _ _ _ _ (fun e => own_blk_ne hown1 hroom1 (by decide) (by rw [hg]; simpa using e))
      have hbut2 : But w (wx.setCell ⟨rb, 0, none⟩ (.int .i64 (ρ - name.size))).drew [rb] := (hbut1.setCell (.inl (by simp)) _).drew
      have hwrb := hrb.lt
      have hcs2 : FsC (wx.setCell ⟨rb, 0, none⟩ (.int .i64 (ρ - name.size))).drew (fun g => (w.heap.size ≤ g ∧ g < X) ∧ some g ≠ sv.ownBlock) acc cs :=
        HC1.out.keep (w1 := (wx.setCell ⟨rb, 0, none⟩ (.int .i64 (ρ - name.size))).drew) fun g hg => Below.heap_setCell wx ⟨rb, 0, none⟩ _ g (by have := hg.1.1; show g ≠ rb; omega)
      have hsz2 : (wx.setCell ⟨rb, 0, none⟩ (.int .i64 (ρ - name.size))).drew.heap.size = X + 1 := by simp [World.setCell, hsz1]
      have HC2 := Lib.hid hcs2
      clear hcs2 HC1 hbut1 hown1 hx1 hroom1 hsz1
      generalize (wx.setCell ⟨rb, 0, none⟩ (.int .i64 (ρ - name.size))).drew = wy at hroom2 hx2 hown2 hbut2 HC2 hsz2 ⊢
      have x0 : wy.cell? ⟨X, 0, none⟩ = some (.string name) := by rw [hx2.cell]; rfl
      have y1 : wy.cell? ⟨X, 1, none⟩ = some (.int .u8 vk) := by rw [hx2.cell]; rfl
      have y2 : wy.cell? ⟨X, 2, none⟩ = some (.int .i64 vn) := by rw [hx2.cell]; rfl
      have y3 : wy.cell? ⟨X, 3, none⟩ = some (.float .f64 vf) := by rw [hx2.cell]; rfl
      have y4 : wy.cell? ⟨X, 4, none⟩ = some (.int .i64 vs) := by rw [hx2.cell]; rfl
      have y5 : wy.cell? ⟨X, 5, none⟩ = some (.string vt) := by rw [hx2.cell]; rfl
      have y6 : wy.cell? ⟨X, 6, none⟩ = some (.slice a1 vks.len c1) := by rw [hx2.cell]; rfl
      have y7 : wy.cell? ⟨X, 7, none⟩ = some (.slice a2 vfs.len c2) := by rw [hx2.cell]; rfl
      have hkeep2 : ∀ g, p g → wy.heap[g]? = w.heap[g]? := fun g hg => hbut2.block g (HP.out g hg).1 (by simpa using (HP.out g hg).2)
      have HK := Lib.hid hkeep2
      have hcall := HV.out vk vn vf vs vt vks vfs a1 c1 a2 c2 ys zs p (ρ - name.size) rb wy.drew o2 (x1.keep (w1 := wy.drew) HK.out) (x2.keep (w1 := wy.drew) HK.out) x3 (x4.keep (w1 := wy.drew) HK.out) (x5.keep (w1 := wy.drew) HK.out) x6
        (fun g hg => ⟨by have := (HP.out g hg).1; show g < wy.heap.size; omega, (HP.out g hg).2⟩) hroom2.drew (by omega) (by omega)
      have hcall2 : Calls Tryz.prog 34 #[.agg (vcells vk vn vf vs vt a1 vks.len c1 a2 vfs.len c2).toArray, .int .i64 d, .pointer (some ⟨rb, 0, none⟩)] wy.drew fun e w2 =>
          ∃ k' n' f' s' t' ks' fs' ρ1 a1' c1' a2' c2' xs' ys', e = .returned (.agg (vcells k' n' f' s' t' a1' (Vs.len ks') c1' a2' (Fs.len fs') c2').toArray) ∧ (V.mk vk vn vf vs vt vks vfs).cut d (ρ - name.size) = (.mk k' n' f' s' t' ks' fs', ρ1) ∧
            Rd w2 (New wy w2) a1' xs' ∧ VsC w2 (New wy w2) ks' xs' ∧ Vs.len ks' ≤ c1' ∧ Rd w2 (New wy w2) a2' ys' ∧ FsC w2 (New wy w2) fs' ys' ∧ Fs.len fs' ≤ c2' ∧ Blk w2 rb 3 #[.int .i64 ρ1] ∧ But wy w2 [rb] ∧
            Blk w2 X 94 (Value.string name :: vcells vk vn vf vs vt a1 vks.len c1 a2 vfs.len c2).toArray ∧ w2.ownsRow w.heap.size 275 8 sv k cs ∧ FsC w2 (fun g => (w.heap.size ≤ g ∧ g < X) ∧ some g ≠ sv.ownBlock) acc cs := by
        refine hcall.mono ?_
        rintro e w2 ⟨rc, rfl, hrd, hroom3, hbut3⟩
        have hbut3' : But wy w2 [rb] := ⟨hbut3.os, hbut3.tape, hbut3.output, hbut3.size, hbut3.block⟩
        have hx3 := hbut3.blk hx2.drew (by simpa using fun e => hne e.symm)
        have hown3 : w2.ownsRow w.heap.size 275 8 sv k cs := own_keep hown2 fun g hg => hbut3.block g (hown2.lt g hg).2 (by have := (hown2.lt g hg).1; simp; omega)
        have hcs3 := HC2.out.keep (w1 := w2) fun g hg => hbut3'.block g (by have := hg.1.2; show g < wy.heap.size; omega) (by have := hg.1.1; simp; omega)
        generalize (V.mk vk vn vf vs vt vks vfs).cut d (ρ - name.size) = cv at hrd hroom3 ⊢
        obtain ⟨⟨k', n', f', s', t', ks', fs'⟩, ρ1⟩ := cv
        rw [RdV] at hrd
        obtain ⟨a1', c1', a2', c2', xs', ys', rfl, z1, z2, z3, z4, z5, z6⟩ := hrd
        exact ⟨k', n', f', s', t', ks', fs', ρ1, a1', c1', a2', c2', xs', ys', rfl, rfl, z1, z2, z3, z4, z5, z6, hroom3, hbut3', hx3, hown3, hcs3⟩
      have HCall := Lib.hid hcall2
      clear hcall hcall2 hkeep2 hkeep x1 x2 x4 x5
      go_wp2_with fail
      go_region_held3 (fun w' => w'.cell? ⟨X, 0, none⟩ = some (.string name) ∧ w'.cell? ⟨X, 1, none⟩ = some (.int .u8 vk) ∧ w'.cell? ⟨X, 2, none⟩ = some (.int .i64 vn) ∧ w'.cell? ⟨X, 3, none⟩ = some (.float .f64 vf) ∧ w'.cell? ⟨X, 4, none⟩ = some (.int .i64 vs) ∧ w'.cell? ⟨X, 5, none⟩ = some (.string vt) ∧ w'.cell? ⟨X, 6, none⟩ = some (.slice a1 vks.len c1) ∧ w'.cell? ⟨X, 7, none⟩ = some (.slice a2 vfs.len c2))
        (go_keep)
        (first
          | (go_at_call 34; refine HCall.out.mono ?_; rintro e w2 ⟨k', n', f', s', t', ks', fs', ρ1, a1', c1', a2', c2', xs', ys', rfl, hcv, z1, z2, z3, z4, z5, z6, hroom3, hbut3, hx3, hown3, hcs3⟩
             have hz1' : w2.cell? ⟨X, 0, none⟩ = some (.string name) := by rw [hx3.cell]; rfl
             have hz2' : w2.cell? ⟨X, 1, none⟩ = some (.int .u8 vk) := by rw [hx3.cell]; rfl
             have hz3' : w2.cell? ⟨X, 2, none⟩ = some (.int .i64 vn) := by rw [hx3.cell]; rfl
             have hz4' : w2.cell? ⟨X, 3, none⟩ = some (.float .f64 vf) := by rw [hx3.cell]; rfl
             have hz5' : w2.cell? ⟨X, 4, none⟩ = some (.int .i64 vs) := by rw [hx3.cell]; rfl
             have hz6' : w2.cell? ⟨X, 5, none⟩ = some (.string vt) := by rw [hx3.cell]; rfl
             have hz7' : w2.cell? ⟨X, 6, none⟩ = some (.slice a1 vks.len c1) := by rw [hx3.cell]; rfl
             have hz8' : w2.cell? ⟨X, 7, none⟩ = some (.slice a2 vfs.len c2) := by rw [hx3.cell]; rfl
             have HCv := Lib.hid hcv
             have HC3 := Lib.hid hcs3
             have HV3 := Lib.hid z2
             have HF3 := Lib.hid z5
             clear hcv hcs3 z2 z5)
          | (refine step_append_src _ rfl (.tmp 24) (.tmp 33) 42 42 rfl w.heap.size 275 i1 _ 8 112 Tryz.underlying42 hi1 hz1 hs1 hb1 rfl sv k cs rfl (hown3.alloc _) (.slice (some ⟨w2.heap.size, 0, none⟩) 1 1) 1 (.string name :: vcells k' n' f' s' t' a1' ks'.len c1' a2' fs'.len c2') rfl
               (src88 w2 name k' n' f' s' t' a1' ks'.len c1' a2' fs'.len c2')
               (by unfold maxLen; omega) (by omega) (by have := hbut3.size; have := hbut2.size; simp; omega) ?_
             intro v' w5 hown5 hg5 hat5
             have hx5 := blk_grown (hown3.alloc _) hg5 (hx3.alloc _) (by decide)
             have hz1'' : w5.cell? ⟨X, 0, none⟩ = some (.string name) := by rw [hx5.cell]; rfl
             have hz2'' : w5.cell? ⟨X, 1, none⟩ = some (.int .u8 vk) := by rw [hx5.cell]; rfl
             have hz3'' : w5.cell? ⟨X, 2, none⟩ = some (.int .i64 vn) := by rw [hx5.cell]; rfl
             have hz4'' : w5.cell? ⟨X, 3, none⟩ = some (.float .f64 vf) := by rw [hx5.cell]; rfl
             have hz5'' : w5.cell? ⟨X, 4, none⟩ = some (.int .i64 vs) := by rw [hx5.cell]; rfl
             have hz6'' : w5.cell? ⟨X, 5, none⟩ = some (.string vt) := by rw [hx5.cell]; rfl
             have hz7'' : w5.cell? ⟨X, 6, none⟩ = some (.slice a1 vks.len c1) := by rw [hx5.cell]; rfl
             have hz8'' : w5.cell? ⟨X, 7, none⟩ = some (.slice a2 vfs.len c2) := by rw [hx5.cell]; rfl))
      have hroom5 := blk_grown (hown3.alloc _) hg5 (hroom3.alloc _) (by decide)
      have hbut5 : But w w5 [rb] := (hbut2.trans (hbut3.alloc _)).grown hg5 (fun g hg => .inr (hrow1 g hg).1)
      have hgk : ∀ g, g < w2.heap.size → some g ≠ sv.ownBlock → w5.heap[g]? = w2.heap[g]? := fun g h1 h2 => (hg5.block g (by simp; omega) h2).trans (Below.heap_alloc _ _ _ h1)
      have hs2 := hbut3.size
      have hs5 := hg5.size
      have hp1 : ∀ g, (w.heap.size ≤ g ∧ g < X) ∧ some g ≠ sv.ownBlock → New w w5 g ∧ some g ≠ v'.ownBlock := by
        rintro g ⟨⟨h1, h2⟩, h3⟩
        refine ⟨⟨h1, ?_⟩, ?_⟩
        · simp at hs5; omega
        · rcases hat5 with e | e
          · rw [e]; exact h3
          · rw [e]; simp; omega
      have hnr : ∀ g, New wy w2 g → some g ≠ sv.ownBlock := by
        intro g h1 he
        have := (hrow1 g he.symm).2
        have := h1.1
        omega
      have hp2 : ∀ g, New wy w2 g → New w w5 g ∧ some g ≠ v'.ownBlock := by
        intro g h1
        have hh := hnr g h1
        refine ⟨⟨by have := h1.1; omega, by have := h1.2; simp at hs5; omega⟩, ?_⟩
        rcases hat5 with e | e
        · rw [e]; exact hh
        · rw [e]; have := h1.2; simp; omega
      have hk5 : ∀ g, New wy w2 g → w5.heap[g]? = w2.heap[g]? := fun g h1 => hgk g h1.2 (hnr g h1)
      have hacc5 : FsC w5 (fun g => New w w5 g ∧ some g ≠ v'.ownBlock) (acc.app (.cons name (.mk k' n' f' s' t' ks' fs') .nil)) (cs ++ .string name :: vcells k' n' f' s' t' a1' ks'.len c1' a2' fs'.len c2') := by
        refine FsC.snoc ?_ ?_
        · rw [RdV]
          exact ⟨a1', c1', a2', c2', xs', ys', rfl, (z1.keep hk5).more hp2, (HV3.out.keep hk5).more hp2, z3, (z4.keep hk5).more hp2, (HF3.out.keep hk5).more hp2, z6⟩
        · exact (HC3.out.keep fun g hg => hgk g (by have := hg.1.2; omega) hg.2).more hp1
      have HA5 := Lib.hid hacc5
      clear hacc5
      have r0 := hroom5.cell0
      by_cases hneg : ρ1 < 0
      · have Hj := Lib.hid (Fs.join_stop acc name _ q d ρ (by rw [HCv.out]; exact hneg))
        rw [HCv.out] at Hj
        go_wp2
        go_ret
        have hcut : fs.cut d r = oneF ∧ (fs.cutO d r).2 = ρ1 := by
          unfold Fs.cut
          rw [← HJ.out, Hj.out]
          exact ⟨rfl, rfl⟩
        rw [hcut.1, hcut.2]
        refine ⟨_, _, rfl, (Value.string ⟨#[]⟩ :: vcells 0 0 0 0 ⟨#[]⟩ none 0 0 none 0 0), ?_, ?_, Nat.le_refl _, hroom5.alloc _, hbut5.alloc _⟩
        · intro _
          refine ⟨w5.heap.size, 0, rfl, ⟨hbut5.size, by simp⟩, fun j u hu => ?_⟩
          have := (Blk.new w5 275 (Value.string ⟨#[]⟩ :: vcells 0 0 0 0 ⟨#[]⟩ none 0 0 none 0 0).toArray).cell j
          simpa using this.trans (by simpa using hu)
        · rw [FsC]
          refine ⟨vcells 0 0 0 0 ⟨#[]⟩ none 0 0 none 0 0, [], rfl, ?_, by rw [FsC]⟩
          rw [RdV]
          exact ⟨none, 0, none, 0, [], [], rfl, fun h => absurd rfl h, by rw [VsC], Nat.le_refl _, fun h => absurd rfl h, by rw [FsC], Nat.le_refl _⟩
      · have hcd := V.cut_dec (.mk vk vn vf vs vt vks vfs) d (ρ - name.size)
        have Hj := Lib.hid (Fs.join_step acc name (.mk vk vn vf vs vt vks vfs) q d ρ (by rw [HCv.out]; exact hneg))
        rw [HCv.out] at Hj hcd
        simp only at hcd
        go_wp2
        refine ⟨⟨k + 1, _, q, ρ1, _, by go_num, by rw [Fs.len_app, hacc]; rfl, by omega, o3, by omega, by omega, Hj.out.symm.trans HJ.out, ?_, hown5, HA5.out, hroom5, hbut5⟩, by simp [intOf]; omega⟩
        rw [show (k + 1) * 8 = k * 8 + 8 by omega]
        exact x7

end Go.Proofs.YtabeppaehenefaaGreat
