/-
  Properness: the statement's own guard.
-/
import Derived.Test.YtabeppaehenefaaGreatCuts
import Derived.Deep.QuietTactic
import Derived.BigQuiet
import Derived.Deep.RegionHeld3
import Derived.Deep.DeepCutAuto
namespace Go.Proofs.YtabeppaehenefaaGreat
open Go.RowKit
set_option linter.unusedVariables false
attribute [local go_sem ↓] Go.wp_at_zero Go.wp_at_succ

theorem wrap_nat (k : Nat) (h : k ≤ 9223372036854775807) : IntKind.i64.wrap (k : Int) = (k : Int) := by
  have : (k : Int) % 18446744073709551616 = k := Int.emod_eq_of_lt (by omega) (by omega)
  simp [IntKind.wrap, IntKind.bits, IntKind.signed, this]
  omega

def Judged (w : World) (rb : Nat) (x : Option Int) (e : Ending) (w' : World) : Prop :=
  ∃ b : Bool, e = .returned (.bool b) ∧ But w w' [rb] ∧ (b = true → ∃ r' : Int, x = some r' ∧ Blk w' rb 3 #[.int .i64 r'])

def ProperV (d : Nat) : Prop := ∀ (k n : Int) (f : Nat) (s : Int) (t : ByteArray) (ks : Vs) (fs : Fs) (a1 : Option Addr) (c1 : Nat) (a2 : Option Addr) (c2 : Nat) (xs ys : List Value) (p : Nat → Prop) (r : Int) (rb : Nat) (w : World),
  (V.mk k n f s t ks fs).ok → Rd w p a1 xs → VsC w p ks xs → ks.len ≤ c1 → Rd w p a2 ys → FsC w p fs ys → fs.len ≤ c2 → (∀ g, p g → g < w.heap.size ∧ g ≠ rb) → Blk w rb 3 #[.int .i64 r] → 0 ≤ r → r ≤ 2000 →
  Calls Tryz.prog 42 #[.agg (vcells k n f s t a1 ks.len c1 a2 fs.len c2).toArray, .int .i64 d, .pointer (some ⟨rb, 0, none⟩)] w (Judged w rb ((V.mk k n f s t ks fs).fit d r))

def ProperT (d : Nat) : Prop := ∀ (fs : Fs) (A : Option Addr) (c : Nat) (xs : List Value) (p : Nat → Prop) (r : Int) (rb : Nat) (w : World),
  fs.ok → fs.len ≤ 140737488355328 → Rd w p A xs → FsC w p fs xs → fs.len ≤ c → (∀ g, p g → g < w.heap.size ∧ g ≠ rb) → Blk w rb 3 #[.int .i64 r] → 0 ≤ r → r ≤ 2000 →
  Calls Tryz.prog 35 #[.slice A fs.len c, .int .i64 d, .pointer (some ⟨rb, 0, none⟩)] w (Judged w rb (fs.fit d none r))

mutual
theorem V.fit_dec : ∀ (v : V) (d : Nat) (r r' : Int), v.fit d r = some r' → 0 ≤ r' ∧ r' ≤ r
  | .mk k n f s t ks fs, d, r, r', h => by
    have hV := Vs.fit_dec ks
    have hF := Fs.fit_dec fs
    obtain ⟨h0, h1⟩ := V.fit_inv h
    rcases h1 with ⟨rfl, _⟩ | ⟨_, h1⟩ | ⟨_, h1⟩
    · exact ⟨h0, by omega⟩
    · have := hV _ _ _ h0 h1
      omega
    · have := hF _ _ _ _ h0 h1
      omega
theorem Vs.fit_dec : ∀ (ks : Vs) (d : Nat) (r r' : Int), 0 ≤ r → ks.fit d r = some r' → 0 ≤ r' ∧ r' ≤ r
  | .nil, d, r, r', h0, h => by rw [Vs.fit] at h; injection h with h; omega
  | .cons v q, d, r, r', h0, h => by
    have hV := V.fit_dec v
    have hQ := Vs.fit_dec q
    rw [Vs.fit] at h
    cases hv : v.fit d r with
    | none => rw [hv] at h; cases h
    | some r1 =>
      rw [hv] at h
      have a := hV _ _ _ hv
      have b := hQ _ _ _ a.1 h
      omega
theorem Fs.fit_dec : ∀ (fs : Fs) (d : Nat) (prev : Option ByteArray) (r r' : Int), 0 ≤ r → fs.fit d prev r = some r' → 0 ≤ r' ∧ r' ≤ r
  | .nil, d, prev, r, r', h0, h => by rw [Fs.fit] at h; injection h with h; omega
  | .cons name v q, d, prev, r, r', h0, h => by
    have hV := V.fit_dec v
    have hQ := Fs.fit_dec q
    rw [Fs.fit] at h
    split at h
    · cases h
    cases hv : v.fit d (r - (1 + name.size)) with
    | none => rw [hv] at h; cases h
    | some r1 =>
      rw [hv] at h
      have a := hV _ _ _ hv
      have b := hQ _ _ _ _ a.1 h
      omega
end

set_option maxRecDepth 100000 in
set_option maxHeartbeats 8000000 in
theorem proper_table (d : Nat) (hd : d ≤ 10) (hV : ProperV d) : ProperT d := by
  intro fs A c xs p r rb w hok hlen hRd hF hc hp hrb hr0 hr1
  have HV := Lib.hid hV
  have Hok := Lib.hid hok
  have HR := Lib.hid hRd
  have HF := Lib.hid hF
  have HP := Lib.hid hp
  clear hV hok hRd hF hp
  go_enter Tryz.func35, Tryz.ntmps35
  go_wp2_with fail
  go_loopw [11] (fun i wr => ∃ (k : Nat) (rest : Fs) (prev : Option ByteArray) (ρ : Int), i = .int .i64 k ∧ rest.len + k = fs.len ∧ rest.ok ∧ 0 ≤ ρ ∧ ρ ≤ 2000 ∧ rest.fit d prev ρ = fs.fit d none r ∧ FsC w p rest (xs.drop (k * 8)) ∧
    ((k = 0 ∧ prev = none) ∨ ∃ pn, prev = some pn ∧ 0 < k ∧ xs[(k - 1) * 8]? = some (.string pn)) ∧ Blk wr rb 3 #[.int .i64 ρ] ∧ But w wr [rb]) (fun i _ => fs.len - (intOf i).toNat)
  case atStart =>
    exact ⟨0, fs, none, r, rfl, rfl, Hok.out, hr0, hr1, rfl, by simpa using HF.out, .inl ⟨rfl, rfl⟩, hrb, But.refl _ _⟩
  case round =>
    obtain ⟨k, rest, prev, ρ, rfl, hrest, hrok, hρ0, hρ1, hjoin, hrF, hprev, hroom, hbut⟩ := hrel
    have HJ := Lib.hid hjoin
    have HPv := Lib.hid hprev
    clear hjoin hprev
    cases rest with
    | nil =>
      rw [Fs.len] at hrest
      have hkl : k = fs.len := by omega
      go_wp2
      go_ret
      exact ⟨true, rfl, hbut, fun _ => ⟨ρ, by rw [← HJ.out, Fs.fit], hroom⟩⟩
    | cons name v q =>
      have hname : xs[k * 8]? = some (Value.string name) := by
        have h := hrF
        rw [FsC] at h
        obtain ⟨vc, cs', e, _⟩ := h
        have := congrArg (fun l => l[0]?) e
        simpa [List.getElem?_drop] using this
      have HN := Lib.hid hname
      clear hname
      obtain ⟨vk, vn, vf, vs, vt, vks, vfs⟩ := v
      rw [Fs.len] at hrest
      obtain ⟨b, off, a1, c1, a2, c2, ys, zs, rfl, hpb, e0, e1, e2, e3, e4, e5, e6, e7, x1, x2, x3, x4, x5, x6, x7⟩ := FsC.at_ HR.out hrF
      have hkeep : ∀ g, p g → wr.heap[g]? = w.heap[g]? := fun g hg => hbut.block g (HP.out g hg).1 (by simpa using (HP.out g hg).2)
      have hb' := hkeep b hpb
      rw [← World.cell?_of_block (w := w) (w' := wr) (a := ⟨b, off + k * 8, none⟩) hb'] at e0
      rw [← World.cell?_of_block (w := w) (w' := wr) (a := ⟨b, off + k * 8 + 1, none⟩) hb'] at e1
      rw [← World.cell?_of_block (w := w) (w' := wr) (a := ⟨b, off + k * 8 + 2, none⟩) hb'] at e2
      rw [← World.cell?_of_block (w := w) (w' := wr) (a := ⟨b, off + k * 8 + 3, none⟩) hb'] at e3
      rw [← World.cell?_of_block (w := w) (w' := wr) (a := ⟨b, off + k * 8 + 4, none⟩) hb'] at e4
      rw [← World.cell?_of_block (w := w) (w' := wr) (a := ⟨b, off + k * 8 + 5, none⟩) hb'] at e5
      rw [← World.cell?_of_block (w := w) (w' := wr) (a := ⟨b, off + k * 8 + 6, none⟩) hb'] at e6
      rw [← World.cell?_of_block (w := w) (w' := wr) (a := ⟨b, off + k * 8 + 7, none⟩) hb'] at e7
      have hk0 : (0 : Int) ≤ (k : Int) := by omega
      have hk1 : (k : Int) < (fs.len : Int) := by omega
      rw [Fs.ok] at hrok
      obtain ⟨o1, o2, o3⟩ := hrok
      have hns : name.size ≤ 140737488355328 := o1
      go_upto_region 4 with fail
      have hroom1 := hroom.alloc (.cells (Value.string name :: vcells vk vn vf vs vt a1 vks.len c1 a2 vfs.len c2).toArray 275)
      have hx1 := Blk.new wr 275 (Value.string name :: vcells vk vn vf vs vt a1 vks.len c1 a2 vfs.len c2).toArray
      have hbut1 := hbut.alloc (.cells (Value.string name :: vcells vk vn vf vs vt a1 vks.len c1 a2 vfs.len c2).toArray 275)
      have hne : rb ≠ wr.heap.size := by have := hroom.lt; omega
      have hwX := hbut.size
      generalize wr.alloc (.cells (Value.string name :: vcells vk vn vf vs vt a1 vks.len c1 a2 vfs.len c2).toArray 275) = wx at hroom1 hx1 hbut1 ⊢
      generalize hX : wr.heap.size = X at hroom1 hx1 hbut1 hne hwX ⊢
      have q0 := hroom1.cell0
      have q1 := hroom1.frozen 0
      have x0 : wx.cell? ⟨X, 0, none⟩ = some (.string name) := by rw [hx1.cell]; rfl
      go_region
      have hroom2 : Blk (wx.setCell ⟨rb, 0, none⟩ (.int .i64 (ρ - (1 + name.size)))).drew rb 3 #[.int .i64 (ρ - (1 + name.size))] := by
        have := (hroom1.set_ 0 (.int .i64 (ρ - (1 + name.size)))).drew; simpa using this
      have hx2 : Blk (wx.setCell ⟨rb, 0, none⟩ (.int .i64 (ρ - (1 + name.size)))).drew X 275 (Value.string name :: vcells vk vn vf vs vt a1 vks.len c1 a2 vfs.len c2).toArray := (hx1.far (by simpa using fun e => hne e.symm) _).drew
      have hbut2 : But w (wx.setCell ⟨rb, 0, none⟩ (.int .i64 (ρ - (1 + name.size)))).drew [rb] := (hbut1.setCell (.inl (by simp)) _).drew
      clear hroom1 hx1 hbut1 q0 q1 x0 e0 e1 e2 e3 e4 e5 e6 e7 hb'
      generalize (wx.setCell ⟨rb, 0, none⟩ (.int .i64 (ρ - (1 + name.size)))).drew = wy at hroom2 hx2 hbut2 ⊢
      have q0 := hroom2.cell0
      have x0 : wy.cell? ⟨X, 0, none⟩ = some (.string name) := by rw [hx2.cell]; rfl
      have y1 : wy.cell? ⟨X, 1, none⟩ = some (.int .u8 vk) := by rw [hx2.cell]; rfl
      have y2 : wy.cell? ⟨X, 2, none⟩ = some (.int .i64 vn) := by rw [hx2.cell]; rfl
      have y3 : wy.cell? ⟨X, 3, none⟩ = some (.float .f64 vf) := by rw [hx2.cell]; rfl
      have y4 : wy.cell? ⟨X, 4, none⟩ = some (.int .i64 vs) := by rw [hx2.cell]; rfl
      have y5 : wy.cell? ⟨X, 5, none⟩ = some (.string vt) := by rw [hx2.cell]; rfl
      have y6 : wy.cell? ⟨X, 6, none⟩ = some (.slice a1 vks.len c1) := by rw [hx2.cell]; rfl
      have y7 : wy.cell? ⟨X, 7, none⟩ = some (.slice a2 vfs.len c2) := by rw [hx2.cell]; rfl
      have hkeep2 : ∀ g, p g → wy.heap[g]? = w.heap[g]? := fun g hg => hbut2.block g (HP.out g hg).1 (by simpa using (HP.out g hg).2)
      have HK := Lib.hid hkeep2
      clear hkeep hkeep2
      have hok7 : ∀ g, p g → g < wy.heap.size ∧ g ≠ rb := fun g hg => ⟨by have := (HP.out g hg).1; have := hbut2.size; omega, (HP.out g hg).2⟩
      have HK7 := Lib.hid hok7
      clear hok7
      go_upto_region 5 with fail
      by_cases h255 : (name.size : Int) > 255
      · go_quiet (fail)
        go_wp2
        go_ret
        exact ⟨false, rfl, hbut2.drewN _, fun h => by cases h⟩
      by_cases hrn : ρ - (1 + (name.size : Int)) < 0
      · go_quiet (fail)
        go_wp2
        go_ret
        exact ⟨false, rfl, hbut2.drewN _, fun h => by cases h⟩
      have hfitc : ∀ r1, prevOk prev name = true → (V.mk vk vn vf vs vt vks vfs).fit d (ρ - (1 + name.size)) = some r1 → fs.fit d none r = q.fit d (some name) r1 := by
        intro r1 h1 h2
        rw [← HJ.out, Fs.fit, if_neg (by rw [h1]; simp; omega), h2]
      have HFit := Lib.hid hfitc
      clear hfitc
      have hcall := fun b' off' (prevc : Value) (hcell : wy.cell? ⟨b', off', none⟩ = some prevc) (hb' : b' ≠ rb) => (HV.out vk vn vf vs vt vks vfs a1 c1 a2 c2 ys zs p (ρ - (1 + name.size)) rb wy.drew o2 (x1.keep (w1 := wy.drew) HK.out) (x2.keep (w1 := wy.drew) HK.out) x3 (x4.keep (w1 := wy.drew) HK.out) (x5.keep (w1 := wy.drew) HK.out) x6
        HK7.out hroom2.drew (by omega) (by omega)).mono (R' := fun e w2 => ∃ bb : Bool, e = .returned (.bool bb) ∧ But w w2 [rb] ∧ (bb = true → ∃ r' : Int, (V.mk vk vn vf vs vt vks vfs).fit d (ρ - (1 + name.size)) = some r' ∧ Blk w2 rb 3 #[.int .i64 r']) ∧ Blk w2 X 275 (Value.string name :: vcells vk vn vf vs vt a1 vks.len c1 a2 vfs.len c2).toArray ∧ w2.cell? ⟨b', off', none⟩ = some prevc) (by
          rintro e w2 ⟨bb, rfl, h1, h2⟩
          have h1' : But wy w2 [rb] := ⟨h1.os, h1.tape, h1.output, h1.size, h1.block⟩
          refine ⟨bb, rfl, hbut2.trans h1', h2, h1'.blk hx2 (by simpa using fun e => hne e.symm), ?_⟩
          rw [World.cell?_of_block (w := wy) (a := ⟨b', off', none⟩)]
          · exact hcell
          · exact h1'.block b' (by have := World.block_lt_of_cell? wy _ hcell; simpa using this) (by simpa using hb'))
      have HCall := Lib.hid hcall
      clear hcall x1 x2 x4 x5
      rcases HPv.out with ⟨rfl, rfl⟩ | ⟨pn, rfl, hk', hpx⟩
      · have HCl := Lib.hid (HCall.out X 0 _ x0 (fun e => hne e.symm))
        refine wp_region_held_drew (S := (fun w' => w'.cell? ⟨X, 0, none⟩ = some (.string name) ∧ w'.cell? ⟨X, 1, none⟩ = some (.int .u8 vk) ∧ w'.cell? ⟨X, 2, none⟩ = some (.int .i64 vn) ∧ w'.cell? ⟨X, 3, none⟩ = some (.float .f64 vf) ∧ w'.cell? ⟨X, 4, none⟩ = some (.int .i64 vs) ∧ w'.cell? ⟨X, 5, none⟩ = some (.string vt) ∧ w'.cell? ⟨X, 6, none⟩ = some (.slice a1 vks.len c1) ∧ w'.cell? ⟨X, 7, none⟩ = some (.slice a2 vfs.len c2))) (by kernel_rfl) ⟨x0, y1, y2, y3, y4, y5, y6, y7⟩ (fun hHeld => ?_)
        refine wpAnyH_take (i := 0) (oi := ⟨_, _, _, _, _, _⟩) (v := ?_) rfl (by kernel_rfl) (by kernel_rfl) (by kernel_rfl) (fun _ _ _ h => h) (Or.inl ⟨by rfl, ?_⟩) (by assumption) ?_
        rotate_left
        · (intro w hSw; (try dsimp only at hSw); go_simp; (try with_reducible rfl))
        try simp only [Act.put, List.setIfInBounds_toArray, List.set_cons_zero, List.set_cons_succ]
        refine wpAnyH_take (i := 1) (oi := ⟨_, _, _, _, _, _⟩) (v := ?_) rfl (by kernel_rfl) (by kernel_rfl) (by kernel_rfl) (fun _ _ _ h => h) (Or.inl ⟨by rfl, ?_⟩) (by assumption) ?_
        rotate_left
        · (intro w hSw; (try dsimp only at hSw); go_simp; (try with_reducible rfl))
        try simp only [Act.put, List.setIfInBounds_toArray, List.set_cons_zero, List.set_cons_succ]
        refine wpAnyH_take (i := 2) (oi := ⟨_, _, _, _, _, _⟩) (v := ?_) rfl (by kernel_rfl) (by kernel_rfl) (by kernel_rfl) (fun _ _ _ h => h) (Or.inl ⟨by rfl, ?_⟩) (by assumption) ?_
        rotate_left
        · (intro w hSw; (try dsimp only at hSw); go_simp; (try with_reducible rfl))
        try simp only [Act.put, List.setIfInBounds_toArray, List.set_cons_zero, List.set_cons_succ]
        refine wpAnyH_take (i := 3) (oi := ⟨_, _, _, _, _, _⟩) (v := ?_) rfl (by kernel_rfl) (by kernel_rfl) (by kernel_rfl) (fun _ _ _ h => h) (Or.inl ⟨by rfl, ?_⟩) (by assumption) ?_
        rotate_left
        · (intro w hSw; (try dsimp only at hSw); go_simp; (try with_reducible rfl))
        try simp only [Act.put, List.setIfInBounds_toArray, List.set_cons_zero, List.set_cons_succ]
        refine wpAnyH_take (i := 4) (oi := ⟨_, _, _, _, _, _⟩) (v := ?_) rfl (by kernel_rfl) (by kernel_rfl) (by kernel_rfl) (fun _ _ _ h => h) (Or.inl ⟨by rfl, ?_⟩) (by assumption) ?_
        rotate_left
        · (intro w hSw; (try dsimp only at hSw); go_simp; (try with_reducible rfl))
        try simp only [Act.put, List.setIfInBounds_toArray, List.set_cons_zero, List.set_cons_succ]
        refine wpAnyH_take (i := 5) (oi := ⟨_, _, _, _, _, _⟩) (v := ?_) rfl (by kernel_rfl) (by kernel_rfl) (by kernel_rfl) (fun _ _ _ h => h) (Or.inl ⟨by rfl, ?_⟩) (by assumption) ?_
        rotate_left
        · (intro w hSw; (try dsimp only at hSw); go_simp; (try with_reducible rfl))
        try simp only [Act.put, List.setIfInBounds_toArray, List.set_cons_zero, List.set_cons_succ]
        refine wpAnyH_take (i := 6) (oi := ⟨_, _, _, _, _, _⟩) (v := ?_) rfl (by kernel_rfl) (by kernel_rfl) (by kernel_rfl) (fun _ _ _ h => h) (Or.inl ⟨by rfl, ?_⟩) (by assumption) ?_
        rotate_left
        · (intro w hSw; (try dsimp only at hSw); go_simp; (try with_reducible rfl))
        try simp only [Act.put, List.setIfInBounds_toArray, List.set_cons_zero, List.set_cons_succ]
        refine wpAnyH_ready (rs := [7]) (by kernel_rfl) (by simp) ?_
        refine AllReadyH.cons (o := ⟨_, _, _, _, _, _⟩) rfl (fun K hK => ?_) AllReadyH.nil
        go_simp
        refine hK.out _ _ (by assumption) (fun _ => ?_)
        clear hK K
        try simp only [Act.put, List.setIfInBounds_toArray, List.set_cons_zero, List.set_cons_succ]
        refine wpAnyH_take (i := 8) (oi := ⟨_, _, _, _, _, _⟩) (v := ?_) rfl (by kernel_rfl) (by kernel_rfl) (by kernel_rfl) (fun _ _ _ h => h) (Or.inl ⟨by rfl, ?_⟩) (by assumption) ?_
        rotate_left
        · (intro w hSw; (try dsimp only at hSw); go_simp; (try with_reducible rfl))
        try simp only [Act.put, List.setIfInBounds_toArray, List.set_cons_zero, List.set_cons_succ]
        refine wpAnyH_take (i := 9) (oi := ⟨_, _, _, _, _, _⟩) (v := ?_) rfl (by kernel_rfl) (by kernel_rfl) (by kernel_rfl) (fun _ _ _ h => h) (Or.inl ⟨by rfl, ?_⟩) (by assumption) ?_
        rotate_left
        · (intro w hSw; (try dsimp only at hSw); go_simp; (try with_reducible rfl))
        try simp only [Act.put, List.setIfInBounds_toArray, List.set_cons_zero, List.set_cons_succ]
        refine wpAnyH_take (i := 10) (oi := ⟨_, _, _, _, _, _⟩) (v := ?_) rfl (by kernel_rfl) (by kernel_rfl) (by kernel_rfl) (fun _ _ _ h => h) (Or.inl ⟨by rfl, ?_⟩) (by assumption) ?_
        rotate_left
        · (intro w hSw; (try dsimp only at hSw); go_simp; (try with_reducible rfl))
        try simp only [Act.put, List.setIfInBounds_toArray, List.set_cons_zero, List.set_cons_succ]
        refine wpAnyH_take (i := 11) (oi := ⟨_, _, _, _, _, _⟩) (v := ?_) rfl (by kernel_rfl) (by kernel_rfl) (by kernel_rfl) (fun _ _ _ h => h) (Or.inl ⟨by rfl, ?_⟩) (by assumption) ?_
        rotate_left
        · (intro w hSw; (try dsimp only at hSw); go_simp; (try with_reducible rfl))
        try simp only [Act.put, List.setIfInBounds_toArray, List.set_cons_zero, List.set_cons_succ]
        refine wpAnyH_take (i := 12) (oi := ⟨_, _, _, _, _, _⟩) (v := ?_) rfl (by kernel_rfl) (by kernel_rfl) (by kernel_rfl) (fun _ _ _ h => h) (Or.inl ⟨by rfl, ?_⟩) (by assumption) ?_
        rotate_left
        · (intro w hSw; (try dsimp only at hSw); go_simp; (try with_reducible rfl))
        try simp only [Act.put, List.setIfInBounds_toArray, List.set_cons_zero, List.set_cons_succ]
        refine wpAnyH_take (i := 13) (oi := ⟨_, _, _, _, _, _⟩) (v := ?_) rfl (by kernel_rfl) (by kernel_rfl) (by kernel_rfl) (fun _ _ _ h => h) (Or.inl ⟨by rfl, ?_⟩) (by assumption) ?_
        rotate_left
        · (intro w hSw; (try dsimp only at hSw); go_simp; (try with_reducible rfl))
        try simp only [Act.put, List.setIfInBounds_toArray, List.set_cons_zero, List.set_cons_succ]
        refine wpAnyH_take (i := 14) (oi := ⟨_, _, _, _, _, _⟩) (v := undef) rfl (by kernel_rfl) (by kernel_rfl) (by kernel_rfl) (fun _ _ _ h => h) (Or.inr ⟨by rfl, rfl⟩) (by assumption) ?_
        try simp only [Act.put, List.setIfInBounds_toArray, List.set_cons_zero, List.set_cons_succ]
        refine wpAnyH_take (i := 15) (oi := ⟨_, _, _, _, _, _⟩) (v := undef) rfl (by kernel_rfl) (by kernel_rfl) (by kernel_rfl) (fun _ _ _ h => h) (Or.inr ⟨by rfl, rfl⟩) (by assumption) ?_
        try simp only [Act.put, List.setIfInBounds_toArray, List.set_cons_zero, List.set_cons_succ]
        refine wpAnyH_take (i := 16) (oi := ⟨_, _, _, _, _, _⟩) (v := undef) rfl (by kernel_rfl) (by kernel_rfl) (by kernel_rfl) (fun _ _ _ h => h) (Or.inr ⟨by rfl, rfl⟩) (by assumption) ?_
        try simp only [Act.put, List.setIfInBounds_toArray, List.set_cons_zero, List.set_cons_succ]
        refine wpAnyH_take (i := 17) (oi := ⟨_, _, _, _, _, _⟩) (v := undef) rfl (by kernel_rfl) (by kernel_rfl) (by kernel_rfl) (fun _ _ _ h => h) (Or.inr ⟨by rfl, rfl⟩) (by assumption) ?_
        try simp only [Act.put, List.setIfInBounds_toArray, List.set_cons_zero, List.set_cons_succ]
        refine wpAnyH_take (i := 18) (oi := ⟨_, _, _, _, _, _⟩) (v := undef) rfl (by kernel_rfl) (by kernel_rfl) (by kernel_rfl) (fun _ _ _ h => h) (Or.inr ⟨by rfl, rfl⟩) (by assumption) ?_
        try simp only [Act.put, List.setIfInBounds_toArray, List.set_cons_zero, List.set_cons_succ]
        refine wpAnyH_take (i := 19) (oi := ⟨_, _, _, _, _, _⟩) (v := undef) rfl (by kernel_rfl) (by kernel_rfl) (by kernel_rfl) (fun _ _ _ h => h) (Or.inr ⟨by rfl, rfl⟩) (by assumption) ?_
        try simp only [Act.put, List.setIfInBounds_toArray, List.set_cons_zero, List.set_cons_succ]
        refine wpAnyH_take (i := 20) (oi := ⟨_, _, _, _, _, _⟩) (v := undef) rfl (by kernel_rfl) (by kernel_rfl) (by kernel_rfl) (fun _ _ _ h => h) (Or.inr ⟨by rfl, rfl⟩) (by assumption) ?_
        try simp only [Act.put, List.setIfInBounds_toArray, List.set_cons_zero, List.set_cons_succ]
        refine wpAnyH_take (i := 21) (oi := ⟨_, _, _, _, _, _⟩) (v := undef) rfl (by kernel_rfl) (by kernel_rfl) (by kernel_rfl) (fun _ _ _ h => h) (Or.inr ⟨by rfl, rfl⟩) (by assumption) ?_
        try simp only [Act.put, List.setIfInBounds_toArray, List.set_cons_zero, List.set_cons_succ]
        refine wpAnyH_take (i := 22) (oi := ⟨_, _, _, _, _, _⟩) (v := undef) rfl (by kernel_rfl) (by kernel_rfl) (by kernel_rfl) (fun _ _ _ h => h) (Or.inr ⟨by rfl, rfl⟩) (by assumption) ?_
        try simp only [Act.put, List.setIfInBounds_toArray, List.set_cons_zero, List.set_cons_succ]
        refine wpAnyH_take (i := 23) (oi := ⟨_, _, _, _, _, _⟩) (v := ?_) rfl (by kernel_rfl) (by kernel_rfl) (by kernel_rfl) (fun _ _ _ h => h) (Or.inl ⟨by rfl, ?_⟩) (by assumption) ?_
        rotate_left
        · (intro w hSw; (try dsimp only at hSw); go_simp; (try with_reducible rfl))
        try simp only [Act.put, List.setIfInBounds_toArray, List.set_cons_zero, List.set_cons_succ]
        refine wpAnyH_take (i := 24) (oi := ⟨_, _, _, _, _, _⟩) (v := ?_) rfl (by kernel_rfl) (by kernel_rfl) (by kernel_rfl) (fun _ _ _ h => h) (Or.inl ⟨by rfl, ?_⟩) (by assumption) ?_
        rotate_left
        · (intro w hSw; (try dsimp only at hSw); go_simp; (try with_reducible rfl))
        try simp only [Act.put, List.setIfInBounds_toArray, List.set_cons_zero, List.set_cons_succ]
        refine wpAnyH_take (i := 25) (oi := ⟨_, _, _, _, _, _⟩) (v := ?_) rfl (by kernel_rfl) (by kernel_rfl) (by kernel_rfl) (fun _ _ _ h => h) (Or.inl ⟨by rfl, ?_⟩) (by assumption) ?_
        rotate_left
        · (intro w hSw; (try dsimp only at hSw); go_simp; (try with_reducible rfl))
        try simp only [Act.put, List.setIfInBounds_toArray, List.set_cons_zero, List.set_cons_succ]
        refine wpAnyH_take (i := 26) (oi := ⟨_, _, _, _, _, _⟩) (v := ?_) rfl (by kernel_rfl) (by kernel_rfl) (by kernel_rfl) (fun _ _ _ h => h) (Or.inl ⟨by rfl, ?_⟩) (by assumption) ?_
        rotate_left
        · (intro w hSw; (try dsimp only at hSw); go_simp; (try with_reducible rfl))
        try simp only [Act.put, List.setIfInBounds_toArray, List.set_cons_zero, List.set_cons_succ]
        refine wpAnyH_take (i := 27) (oi := ⟨_, _, _, _, _, _⟩) (v := ?_) rfl (by kernel_rfl) (by kernel_rfl) (by kernel_rfl) (fun _ _ _ h => h) (Or.inl ⟨by rfl, ?_⟩) (by assumption) ?_
        rotate_left
        · (intro w hSw; (try dsimp only at hSw); go_simp; (try with_reducible rfl))
        try simp only [Act.put, List.setIfInBounds_toArray, List.set_cons_zero, List.set_cons_succ]
        refine wpAnyH_take (i := 28) (oi := ⟨_, _, _, _, _, _⟩) (v := ?_) rfl (by kernel_rfl) (by kernel_rfl) (by kernel_rfl) (fun _ _ _ h => h) (Or.inl ⟨by rfl, ?_⟩) (by assumption) ?_
        rotate_left
        · (intro w hSw; (try dsimp only at hSw); go_simp; (try with_reducible rfl))
        try simp only [Act.put, List.setIfInBounds_toArray, List.set_cons_zero, List.set_cons_succ]
        refine wpAnyH_take (i := 29) (oi := ⟨_, _, _, _, _, _⟩) (v := ?_) rfl (by kernel_rfl) (by kernel_rfl) (by kernel_rfl) (fun _ _ _ h => h) (Or.inl ⟨by rfl, ?_⟩) (by assumption) ?_
        rotate_left
        · (intro w hSw; (try dsimp only at hSw); go_simp; (try with_reducible rfl))
        try simp only [Act.put, List.setIfInBounds_toArray, List.set_cons_zero, List.set_cons_succ]
        refine wpAnyH_ready (rs := [30]) (by kernel_rfl) (by simp) ?_
        refine AllReadyH.cons (o := ⟨_, _, _, _, _, _⟩) rfl (fun K hK => ?_) AllReadyH.nil
        go_simp
        refine HCl.out.mono ?_
        rintro e w2 ⟨bb, rfl, hbut3, hfit, hx3, hpc⟩
        have hz1' : w2.cell? ⟨X, 0, none⟩ = some (.string name) := by rw [hx3.cell]; rfl
        have hz2' : w2.cell? ⟨X, 1, none⟩ = some (.int .u8 vk) := by rw [hx3.cell]; rfl
        have hz3' : w2.cell? ⟨X, 2, none⟩ = some (.int .i64 vn) := by rw [hx3.cell]; rfl
        have hz4' : w2.cell? ⟨X, 3, none⟩ = some (.float .f64 vf) := by rw [hx3.cell]; rfl
        have hz5' : w2.cell? ⟨X, 4, none⟩ = some (.int .i64 vs) := by rw [hx3.cell]; rfl
        have hz6' : w2.cell? ⟨X, 5, none⟩ = some (.string vt) := by rw [hx3.cell]; rfl
        have hz7' : w2.cell? ⟨X, 6, none⟩ = some (.slice a1 vks.len c1) := by rw [hx3.cell]; rfl
        have hz8' : w2.cell? ⟨X, 7, none⟩ = some (.slice a2 vfs.len c2) := by rw [hx3.cell]; rfl
        have Hfit := Lib.hid hfit
        clear hfit
        go_wp2_with fail
        refine hK.out _ _ ?_ (fun hHeld => ?_)
        · ((try dsimp only); go_keep)
        clear hK K
        try simp only [Act.put, List.setIfInBounds_toArray, List.set_cons_zero, List.set_cons_succ]
        refine wpAnyH_take (i := 31) (oi := ⟨_, _, _, _, _, _⟩) (v := ?_) rfl (by kernel_rfl) (by kernel_rfl) (by kernel_rfl) (fun _ _ _ h => h) (Or.inl ⟨by rfl, ?_⟩) (by assumption) ?_
        rotate_left
        · (intro w hSw; (try dsimp only at hSw); go_simp; (try with_reducible rfl))
        try simp only [Act.put, List.setIfInBounds_toArray, List.set_cons_zero, List.set_cons_succ]
        refine wpAnyH_take (i := 32) (oi := ⟨_, _, _, _, _, _⟩) (v := ?_) rfl (by kernel_rfl) (by kernel_rfl) (by kernel_rfl) (fun _ _ _ h => h) (Or.inl ⟨by rfl, ?_⟩) (by assumption) ?_
        rotate_left
        · (intro w hSw; (try dsimp only at hSw); go_simp; (try with_reducible rfl))
        try simp only [Act.put, List.setIfInBounds_toArray, List.set_cons_zero, List.set_cons_succ]
        refine wpAnyH_done (by kernel_rfl) ?_ _
        cases bb with
        | false =>
          go_wp2
          go_ret
          exact ⟨false, rfl, hbut3, fun h => by cases h⟩
        | true =>
          obtain ⟨r1, hf1, hroom3⟩ := Hfit.out rfl
          have hfd := V.fit_dec _ _ _ _ hf1
          have Hf1 := Lib.hid hf1
          clear hf1
          go_wp2
          refine ⟨⟨1, q, some name, r1, by go_num, by omega, o3, hfd.1, by omega, (HFit.out r1 rfl Hf1.out).symm, ?_, .inr ⟨name, rfl, by omega, ?_⟩, hroom3, hbut3⟩, by simp [intOf]; omega⟩
          · simpa using x7
          · exact HN.out
      · obtain ⟨k', rfl⟩ : ∃ k', k = k' + 1 := ⟨k - 1, by omega⟩
        have hc3 : wy.cell? ⟨b, off + k' * 8, none⟩ = some (.string pn) := by
          obtain ⟨b2, off2, he, _, hcc⟩ := HR.out (by rintro rfl; simp at hpx)
          injection he with he
          injection he with he1 he2
          subst he1 he2
          rw [World.cell?_of_block (w := w) (a := ⟨b, off + k' * 8, none⟩) (HK.out b hpb)]
          exact hcc _ _ (by simpa using hpx)
        have hwk := wrap_nat k' (by omega)
        have hkk0 : (0 : Int) ≤ (k' : Int) := by omega
        have hkk1 : (k' : Int) < (fs.len : Int) := by omega
        have hbrb := (HP.out b hpb).2
        by_cases hless : nameLess pn name = true
        · have HCl := Lib.hid (HCall.out b (off + k' * 8) _ hc3 hbrb)
          have hl : Go.Op.bytesLess pn.toList name.toList = true := by simpa [nameLess] using hless
          refine wp_region_held_drew (S := (fun w' => w'.cell? ⟨X, 0, none⟩ = some (.string name) ∧ w'.cell? ⟨X, 1, none⟩ = some (.int .u8 vk) ∧ w'.cell? ⟨X, 2, none⟩ = some (.int .i64 vn) ∧ w'.cell? ⟨X, 3, none⟩ = some (.float .f64 vf) ∧ w'.cell? ⟨X, 4, none⟩ = some (.int .i64 vs) ∧ w'.cell? ⟨X, 5, none⟩ = some (.string vt) ∧ w'.cell? ⟨X, 6, none⟩ = some (.slice a1 vks.len c1) ∧ w'.cell? ⟨X, 7, none⟩ = some (.slice a2 vfs.len c2) ∧ w'.cell? ⟨b, off + k' * 8, none⟩ = some (.string pn))) (by kernel_rfl) ⟨x0, y1, y2, y3, y4, y5, y6, y7, hc3⟩ (fun hHeld => ?_)
          refine wpAnyH_take (i := 0) (oi := ⟨_, _, _, _, _, _⟩) (v := ?_) rfl (by kernel_rfl) (by kernel_rfl) (by kernel_rfl) (fun _ _ _ h => h) (Or.inl ⟨by rfl, ?_⟩) (by assumption) ?_
          rotate_left
          · (intro w hSw; (try dsimp only at hSw); go_simp; (try with_reducible rfl))
          try simp only [Act.put, List.setIfInBounds_toArray, List.set_cons_zero, List.set_cons_succ]
          refine wpAnyH_take (i := 1) (oi := ⟨_, _, _, _, _, _⟩) (v := ?_) rfl (by kernel_rfl) (by kernel_rfl) (by kernel_rfl) (fun _ _ _ h => h) (Or.inl ⟨by rfl, ?_⟩) (by assumption) ?_
          rotate_left
          · (intro w hSw; (try dsimp only at hSw); go_simp; (try with_reducible rfl))
          try simp only [Act.put, List.setIfInBounds_toArray, List.set_cons_zero, List.set_cons_succ]
          refine wpAnyH_take (i := 2) (oi := ⟨_, _, _, _, _, _⟩) (v := ?_) rfl (by kernel_rfl) (by kernel_rfl) (by kernel_rfl) (fun _ _ _ h => h) (Or.inl ⟨by rfl, ?_⟩) (by assumption) ?_
          rotate_left
          · (intro w hSw; (try dsimp only at hSw); go_simp; (try with_reducible rfl))
          try simp only [Act.put, List.setIfInBounds_toArray, List.set_cons_zero, List.set_cons_succ]
          refine wpAnyH_take (i := 3) (oi := ⟨_, _, _, _, _, _⟩) (v := ?_) rfl (by kernel_rfl) (by kernel_rfl) (by kernel_rfl) (fun _ _ _ h => h) (Or.inl ⟨by rfl, ?_⟩) (by assumption) ?_
          rotate_left
          · (intro w hSw; (try dsimp only at hSw); go_simp; (try with_reducible rfl))
          try simp only [Act.put, List.setIfInBounds_toArray, List.set_cons_zero, List.set_cons_succ]
          refine wpAnyH_take (i := 4) (oi := ⟨_, _, _, _, _, _⟩) (v := ?_) rfl (by kernel_rfl) (by kernel_rfl) (by kernel_rfl) (fun _ _ _ h => h) (Or.inl ⟨by rfl, ?_⟩) (by assumption) ?_
          rotate_left
          · (intro w hSw; (try dsimp only at hSw); go_simp; (try with_reducible rfl))
          try simp only [Act.put, List.setIfInBounds_toArray, List.set_cons_zero, List.set_cons_succ]
          refine wpAnyH_take (i := 5) (oi := ⟨_, _, _, _, _, _⟩) (v := ?_) rfl (by kernel_rfl) (by kernel_rfl) (by kernel_rfl) (fun _ _ _ h => h) (Or.inl ⟨by rfl, ?_⟩) (by assumption) ?_
          rotate_left
          · (intro w hSw; (try dsimp only at hSw); go_simp; (try with_reducible rfl))
          try simp only [Act.put, List.setIfInBounds_toArray, List.set_cons_zero, List.set_cons_succ]
          refine wpAnyH_take (i := 6) (oi := ⟨_, _, _, _, _, _⟩) (v := ?_) rfl (by kernel_rfl) (by kernel_rfl) (by kernel_rfl) (fun _ _ _ h => h) (Or.inl ⟨by rfl, ?_⟩) (by assumption) ?_
          rotate_left
          · (intro w hSw; (try dsimp only at hSw); go_simp; (try with_reducible rfl))
          try simp only [Act.put, List.setIfInBounds_toArray, List.set_cons_zero, List.set_cons_succ]
          refine wpAnyH_ready (rs := [7]) (by kernel_rfl) (by simp) ?_
          refine AllReadyH.cons (o := ⟨_, _, _, _, _, _⟩) rfl (fun K hK => ?_) AllReadyH.nil
          go_simp
          refine hK.out _ _ (by assumption) (fun _ => ?_)
          clear hK K
          try simp only [Act.put, List.setIfInBounds_toArray, List.set_cons_zero, List.set_cons_succ]
          refine wpAnyH_take (i := 8) (oi := ⟨_, _, _, _, _, _⟩) (v := ?_) rfl (by kernel_rfl) (by kernel_rfl) (by kernel_rfl) (fun _ _ _ h => h) (Or.inl ⟨by rfl, ?_⟩) (by assumption) ?_
          rotate_left
          · (intro w hSw; (try dsimp only at hSw); go_simp; (try with_reducible rfl))
          try simp only [Act.put, List.setIfInBounds_toArray, List.set_cons_zero, List.set_cons_succ]
          refine wpAnyH_take (i := 9) (oi := ⟨_, _, _, _, _, _⟩) (v := ?_) rfl (by kernel_rfl) (by kernel_rfl) (by kernel_rfl) (fun _ _ _ h => h) (Or.inl ⟨by rfl, ?_⟩) (by assumption) ?_
          rotate_left
          · (intro w hSw; (try dsimp only at hSw); go_simp; (try with_reducible rfl))
          try simp only [Act.put, List.setIfInBounds_toArray, List.set_cons_zero, List.set_cons_succ]
          refine wpAnyH_take (i := 10) (oi := ⟨_, _, _, _, _, _⟩) (v := ?_) rfl (by kernel_rfl) (by kernel_rfl) (by kernel_rfl) (fun _ _ _ h => h) (Or.inl ⟨by rfl, ?_⟩) (by assumption) ?_
          rotate_left
          · (intro w hSw; (try dsimp only at hSw); go_simp; (try with_reducible rfl))
          try simp only [Act.put, List.setIfInBounds_toArray, List.set_cons_zero, List.set_cons_succ]
          refine wpAnyH_take (i := 11) (oi := ⟨_, _, _, _, _, _⟩) (v := ?_) rfl (by kernel_rfl) (by kernel_rfl) (by kernel_rfl) (fun _ _ _ h => h) (Or.inl ⟨by rfl, ?_⟩) (by assumption) ?_
          rotate_left
          · (intro w hSw; (try dsimp only at hSw); go_simp; (try with_reducible rfl))
          try simp only [Act.put, List.setIfInBounds_toArray, List.set_cons_zero, List.set_cons_succ]
          refine wpAnyH_take (i := 12) (oi := ⟨_, _, _, _, _, _⟩) (v := ?_) rfl (by kernel_rfl) (by kernel_rfl) (by kernel_rfl) (fun _ _ _ h => h) (Or.inl ⟨by rfl, ?_⟩) (by assumption) ?_
          rotate_left
          · (intro w hSw; (try dsimp only at hSw); go_simp; (try with_reducible rfl))
          try simp only [Act.put, List.setIfInBounds_toArray, List.set_cons_zero, List.set_cons_succ]
          refine wpAnyH_take (i := 13) (oi := ⟨_, _, _, _, _, _⟩) (v := ?_) rfl (by kernel_rfl) (by kernel_rfl) (by kernel_rfl) (fun _ _ _ h => h) (Or.inl ⟨by rfl, ?_⟩) (by assumption) ?_
          rotate_left
          · (intro w hSw; (try dsimp only at hSw); go_simp; (try with_reducible rfl))
          try simp only [Act.put, List.setIfInBounds_toArray, List.set_cons_zero, List.set_cons_succ]
          refine wpAnyH_take (i := 14) (oi := ⟨_, _, _, _, _, _⟩) (v := ?_) rfl (by kernel_rfl) (by kernel_rfl) (by kernel_rfl) (fun _ _ _ h => h) (Or.inl ⟨by rfl, ?_⟩) (by assumption) ?_
          rotate_left
          · (intro w hSw; (try dsimp only at hSw); go_simp; (try with_reducible rfl))
          try simp only [Act.put, List.setIfInBounds_toArray, List.set_cons_zero, List.set_cons_succ]
          refine wpAnyH_take (i := 15) (oi := ⟨_, _, _, _, _, _⟩) (v := ?_) rfl (by kernel_rfl) (by kernel_rfl) (by kernel_rfl) (fun _ _ _ h => h) (Or.inl ⟨by rfl, ?_⟩) (by assumption) ?_
          rotate_left
          · (intro w hSw; (try dsimp only at hSw); go_simp; (try with_reducible rfl))
          try simp only [Act.put, List.setIfInBounds_toArray, List.set_cons_zero, List.set_cons_succ]
          refine wpAnyH_take (i := 16) (oi := ⟨_, _, _, _, _, _⟩) (v := ?_) rfl (by kernel_rfl) (by kernel_rfl) (by kernel_rfl) (fun _ _ _ h => h) (Or.inl ⟨by rfl, ?_⟩) (by assumption) ?_
          rotate_left
          · (intro w hSw; (try dsimp only at hSw); go_simp; (try with_reducible rfl))
          try simp only [Act.put, List.setIfInBounds_toArray, List.set_cons_zero, List.set_cons_succ]
          refine wpAnyH_take (i := 17) (oi := ⟨_, _, _, _, _, _⟩) (v := ?_) rfl (by kernel_rfl) (by kernel_rfl) (by kernel_rfl) (fun _ _ _ h => h) (Or.inl ⟨by rfl, ?_⟩) (by assumption) ?_
          rotate_left
          · (intro w hSw; (try dsimp only at hSw); go_simp; (try with_reducible rfl))
          try simp only [Act.put, List.setIfInBounds_toArray, List.set_cons_zero, List.set_cons_succ]
          refine wpAnyH_take (i := 18) (oi := ⟨_, _, _, _, _, _⟩) (v := ?_) rfl (by kernel_rfl) (by kernel_rfl) (by kernel_rfl) (fun _ _ _ h => h) (Or.inl ⟨by rfl, ?_⟩) (by assumption) ?_
          rotate_left
          · (intro w hSw; (try dsimp only at hSw); go_simp; (try with_reducible rfl))
          try simp only [Act.put, List.setIfInBounds_toArray, List.set_cons_zero, List.set_cons_succ]
          refine wpAnyH_take (i := 19) (oi := ⟨_, _, _, _, _, _⟩) (v := ?_) rfl (by kernel_rfl) (by kernel_rfl) (by kernel_rfl) (fun _ _ _ h => h) (Or.inl ⟨by rfl, ?_⟩) (by assumption) ?_
          rotate_left
          · (intro w hSw; (try dsimp only at hSw); go_simp; (try with_reducible rfl))
          try simp only [Act.put, List.setIfInBounds_toArray, List.set_cons_zero, List.set_cons_succ]
          refine wpAnyH_take (i := 20) (oi := ⟨_, _, _, _, _, _⟩) (v := ?_) rfl (by kernel_rfl) (by kernel_rfl) (by kernel_rfl) (fun _ _ _ h => h) (Or.inl ⟨by rfl, ?_⟩) (by assumption) ?_
          rotate_left
          · (intro w hSw; (try dsimp only at hSw); go_simp; (try with_reducible rfl))
          try simp only [Act.put, List.setIfInBounds_toArray, List.set_cons_zero, List.set_cons_succ]
          refine wpAnyH_take (i := 21) (oi := ⟨_, _, _, _, _, _⟩) (v := ?_) rfl (by kernel_rfl) (by kernel_rfl) (by kernel_rfl) (fun _ _ _ h => h) (Or.inl ⟨by rfl, ?_⟩) (by assumption) ?_
          rotate_left
          · (intro w hSw; (try dsimp only at hSw); go_simp; (try with_reducible rfl))
          try simp only [Act.put, List.setIfInBounds_toArray, List.set_cons_zero, List.set_cons_succ]
          refine wpAnyH_take (i := 22) (oi := ⟨_, _, _, _, _, _⟩) (v := ?_) rfl (by kernel_rfl) (by kernel_rfl) (by kernel_rfl) (fun _ _ _ h => h) (Or.inl ⟨by rfl, ?_⟩) (by assumption) ?_
          rotate_left
          · (intro w hSw; (try dsimp only at hSw); go_simp; (try with_reducible rfl))
          try simp only [Act.put, List.setIfInBounds_toArray, List.set_cons_zero, List.set_cons_succ]
          refine wpAnyH_take (i := 23) (oi := ⟨_, _, _, _, _, _⟩) (v := ?_) rfl (by kernel_rfl) (by kernel_rfl) (by kernel_rfl) (fun _ _ _ h => h) (Or.inl ⟨by rfl, ?_⟩) (by assumption) ?_
          rotate_left
          · (intro w hSw; (try dsimp only at hSw); go_simp; (try with_reducible rfl))
          try simp only [Act.put, List.setIfInBounds_toArray, List.set_cons_zero, List.set_cons_succ]
          refine wpAnyH_take (i := 24) (oi := ⟨_, _, _, _, _, _⟩) (v := ?_) rfl (by kernel_rfl) (by kernel_rfl) (by kernel_rfl) (fun _ _ _ h => h) (Or.inl ⟨by rfl, ?_⟩) (by assumption) ?_
          rotate_left
          · (intro w hSw; (try dsimp only at hSw); go_simp; (try with_reducible rfl))
          try simp only [Act.put, List.setIfInBounds_toArray, List.set_cons_zero, List.set_cons_succ]
          refine wpAnyH_take (i := 25) (oi := ⟨_, _, _, _, _, _⟩) (v := ?_) rfl (by kernel_rfl) (by kernel_rfl) (by kernel_rfl) (fun _ _ _ h => h) (Or.inl ⟨by rfl, ?_⟩) (by assumption) ?_
          rotate_left
          · (intro w hSw; (try dsimp only at hSw); go_simp; (try with_reducible rfl))
          try simp only [Act.put, List.setIfInBounds_toArray, List.set_cons_zero, List.set_cons_succ]
          refine wpAnyH_take (i := 26) (oi := ⟨_, _, _, _, _, _⟩) (v := ?_) rfl (by kernel_rfl) (by kernel_rfl) (by kernel_rfl) (fun _ _ _ h => h) (Or.inl ⟨by rfl, ?_⟩) (by assumption) ?_
          rotate_left
          · (intro w hSw; (try dsimp only at hSw); go_simp; (try with_reducible rfl))
          try simp only [Act.put, List.setIfInBounds_toArray, List.set_cons_zero, List.set_cons_succ]
          refine wpAnyH_take (i := 27) (oi := ⟨_, _, _, _, _, _⟩) (v := ?_) rfl (by kernel_rfl) (by kernel_rfl) (by kernel_rfl) (fun _ _ _ h => h) (Or.inl ⟨by rfl, ?_⟩) (by assumption) ?_
          rotate_left
          · (intro w hSw; (try dsimp only at hSw); go_simp; (try with_reducible rfl))
          try simp only [Act.put, List.setIfInBounds_toArray, List.set_cons_zero, List.set_cons_succ]
          refine wpAnyH_take (i := 28) (oi := ⟨_, _, _, _, _, _⟩) (v := ?_) rfl (by kernel_rfl) (by kernel_rfl) (by kernel_rfl) (fun _ _ _ h => h) (Or.inl ⟨by rfl, ?_⟩) (by assumption) ?_
          rotate_left
          · (intro w hSw; (try dsimp only at hSw); go_simp; (try with_reducible rfl))
          try simp only [Act.put, List.setIfInBounds_toArray, List.set_cons_zero, List.set_cons_succ]
          refine wpAnyH_take (i := 29) (oi := ⟨_, _, _, _, _, _⟩) (v := ?_) rfl (by kernel_rfl) (by kernel_rfl) (by kernel_rfl) (fun _ _ _ h => h) (Or.inl ⟨by rfl, ?_⟩) (by assumption) ?_
          rotate_left
          · (intro w hSw; (try dsimp only at hSw); go_simp; (try with_reducible rfl))
          try simp only [Act.put, List.setIfInBounds_toArray, List.set_cons_zero, List.set_cons_succ]
          refine wpAnyH_ready (rs := [30]) (by kernel_rfl) (by simp) ?_
          refine AllReadyH.cons (o := ⟨_, _, _, _, _, _⟩) rfl (fun K hK => ?_) AllReadyH.nil
          go_simp
          refine HCl.out.mono ?_
          rintro e w2 ⟨bb, rfl, hbut3, hfit, hx3, hpc⟩
          have hz1' : w2.cell? ⟨X, 0, none⟩ = some (.string name) := by rw [hx3.cell]; rfl
          have hz2' : w2.cell? ⟨X, 1, none⟩ = some (.int .u8 vk) := by rw [hx3.cell]; rfl
          have hz3' : w2.cell? ⟨X, 2, none⟩ = some (.int .i64 vn) := by rw [hx3.cell]; rfl
          have hz4' : w2.cell? ⟨X, 3, none⟩ = some (.float .f64 vf) := by rw [hx3.cell]; rfl
          have hz5' : w2.cell? ⟨X, 4, none⟩ = some (.int .i64 vs) := by rw [hx3.cell]; rfl
          have hz6' : w2.cell? ⟨X, 5, none⟩ = some (.string vt) := by rw [hx3.cell]; rfl
          have hz7' : w2.cell? ⟨X, 6, none⟩ = some (.slice a1 vks.len c1) := by rw [hx3.cell]; rfl
          have hz8' : w2.cell? ⟨X, 7, none⟩ = some (.slice a2 vfs.len c2) := by rw [hx3.cell]; rfl
          have Hfit := Lib.hid hfit
          clear hfit
          go_wp2_with fail
          refine hK.out _ _ ?_ (fun hHeld => ?_)
          · ((try dsimp only); go_keep)
          clear hK K
          try simp only [Act.put, List.setIfInBounds_toArray, List.set_cons_zero, List.set_cons_succ]
          refine wpAnyH_take (i := 31) (oi := ⟨_, _, _, _, _, _⟩) (v := ?_) rfl (by kernel_rfl) (by kernel_rfl) (by kernel_rfl) (fun _ _ _ h => h) (Or.inl ⟨by rfl, ?_⟩) (by assumption) ?_
          rotate_left
          · (intro w hSw; (try dsimp only at hSw); go_simp; (try with_reducible rfl))
          try simp only [Act.put, List.setIfInBounds_toArray, List.set_cons_zero, List.set_cons_succ]
          refine wpAnyH_take (i := 32) (oi := ⟨_, _, _, _, _, _⟩) (v := ?_) rfl (by kernel_rfl) (by kernel_rfl) (by kernel_rfl) (fun _ _ _ h => h) (Or.inl ⟨by rfl, ?_⟩) (by assumption) ?_
          rotate_left
          · (intro w hSw; (try dsimp only at hSw); go_simp; (try with_reducible rfl))
          try simp only [Act.put, List.setIfInBounds_toArray, List.set_cons_zero, List.set_cons_succ]
          refine wpAnyH_done (by kernel_rfl) ?_ _
          cases bb with
          | false =>
            go_wp2
            go_ret
            exact ⟨false, rfl, hbut3, fun h => by cases h⟩
          | true =>
            obtain ⟨r1, hf1, hroom3⟩ := Hfit.out rfl
            have hfd := V.fit_dec _ _ _ _ hf1
            have Hf1 := Lib.hid hf1
            clear hf1
            go_wp2
            refine ⟨⟨k' + 2, q, some name, r1, by go_num, by omega, o3, hfd.1, by omega, (HFit.out r1 hless Hf1.out).symm, ?_, .inr ⟨name, rfl, by omega, ?_⟩, hroom3, hbut3⟩, by simp [intOf]; omega⟩
            · (rw [show (k' + 2) * 8 = (k' + 1) * 8 + 8 by omega]; exact x7)
            · (rw [show k' + 2 - 1 = k' + 1 by omega]; exact HN.out)
        · have hl : Go.Op.bytesLess pn.toList name.toList = false := by simpa [nameLess] using hless
          go_quiet (fail)
          go_wp2
          go_ret
          exact ⟨false, rfl, hbut2.drewN _, fun h => by cases h⟩

end Go.Proofs.YtabeppaehenefaaGreat
