/-
  FnMethod: FormatMethod; the statement's arguments as the package's own.
-/
import Derived.Test.YtabeppaehenefaaGreatQb
import Derived.Test.YtabeppaehenefaaGreatMd
namespace Go.Proofs.YtabeppaehenefaaGreat
open Go.RowKit
attribute [local go_sem ↓] Go.wp_at_zero Go.wp_at_succ

theorem call16 (a b : Value) (w : World) : (callFunc 16 (#[a] ++ #[b])).run Tryz.prog w = .ok (.enter 16 (#[a] ++ #[b])) w := by kernel_rfl
theorem frame_eq (ch : Nat) (xs : List UInt8) : fhead 1 ch xs.length ++ xs ++ [206] = frameB 1 ch xs := by simp [fhead, frameB]

set_option maxRecDepth 100000 in
set_option maxHeartbeats 4000000 in
/-- FormatMethod -/
theorem FormatMethod_any {A : Option Addr} {c : Nat} {xs : List Value} {p : Nat → Prop} {w : World} {ys : List UInt8} (ch cl me : Nat) (gs : List Ag) (hch : ch < 65536) (hcl : cl < 65536) (hme : me < 65536)
    (hok : ∀ a ∈ gs, a.ok ∧ a.fs.good none) (hlen : gs.length ≤ 2147483647) (hR : Rd w p A xs) (hA : AgsC w p gs xs) (hp : ∀ g, p g → g < w.heap.size) (hy : ys.length ≤ 140737488200000)
    (hZ : ∀ (H : Nat) (w' : World) (sv : Value) (cs : List Value) (q : Nat → Prop), w'.ownsRow H 60 4 sv gs.length cs → ZgsC w' q gs cs → (∀ g, q g → g < w'.heap.size) → Calls Tryz.prog 18 #[.int .u16 cl, .int .u16 me, sv] w' (ZPost w' cl me ys)) :
    Calls Tryz.prog 8 #[.int .i64 ch, .agg #[.int .i64 cl, .int .i64 me, .slice A gs.length c]] w fun e w' => ∃ sv, e = .returned (.tuple #[sv, .bool true]) ∧ Own w' w.heap.size sv (frameB 1 ch (be cl 2 ++ (be me 2 ++ ys))) ∧ Below w.heap.size w w' := by
  have HC := Lib.hid (written_any (w := w.alloc (.cells #[.int .i64 cl, .int .i64 me, .slice A gs.length c] 24)) (kf := 16) (caps := #[.pointer (some ⟨w.heap.size, 0, none⟩)]) (ch := ch) (ys := fhead 1 ch (be cl 2 ++ (be me 2 ++ ys)).length ++ (be cl 2 ++ (be me 2 ++ ys)) ++ [206]) hch (fun w => call16 _ _ w) (fun w1 hw1 => by
    have hs1 := hw1.size
    simp only [World.size_alloc] at hs1
    have hk : ∀ g, p g → w1.heap[g]? = w.heap[g]? := fun g hg => (hw1.block g (by have := hp g hg; simp; omega)).trans (Below.heap_alloc _ _ _ (hp g hg))
    refine (maker_any ch cl me gs ((Blk.new w 24 _).below hw1 (by simp)) hcl hme hok hlen (hR.keep hk) (hA.keep hk) (fun g hg => by have := hp g hg; omega) (fun w' sv cs q _ h1 h2 h3 => hZ _ w' sv cs q h1 h2 h3)).mono ?_
    rintro e w2 ⟨fb, T, g, fi, fw, w0, rfl, hb2, hM, h0, hf⟩
    exact ⟨_, rfl, hb2, ZZWriteFrame_mf ch hM h0 hf hy hch hcl hme⟩))
  clear hR hA hp hok hZ
  go_enter Tryz.func8, Tryz.ntmps8
  go_wp2_with fail
  refine HC.out.mono ?_
  rintro e w1 ⟨sv, rfl, h1, h2⟩
  go_wp2
  go_ret2
  rw [frame_eq] at h1
  exact ⟨_, rfl, h1.more (by simp), ((Below.refl _ _).alloc (Nat.le_refl _) _).trans (h2.mono (by simp))⟩

theorem argsB_nil (gs : List Ag) (n h : Nat) : argsB [] gs n h = flushB n h := by rw [argsB]
theorem sz_none : (⟨#[]⟩ : ByteArray).size = 0 := rfl
/-- what an argument of a letter is, its table whole -/
def Ag.fitz (l : Nat) (a : Ag) : Prop :=
  match l with
  | 111 => a.k = 0 ∧ a.n < 256
  | 115 => a.k = 1 ∧ a.n < 65536
  | 108 => a.k = 2 ∧ a.n < 4294967296
  | 113 => a.k = 3 ∧ a.n < 18446744073709551616
  | 83 => a.k = 4 ∧ a.t.size ≤ 255
  | 76 => a.k = 5 ∧ a.t.size ≤ 1000
  | 98 => a.k = 6 ∧ a.n ≤ 1
  | 116 => a.k = 7 ∧ a.fs.enc.length ≤ 20000
  | _ => False
def properF : List UInt8 → List Ag → Prop
  | [], gs => gs = []
  | c :: r, gs => if c.toNat < 65 then properF r gs else ∃ a q, gs = a :: q ∧ a.fitz c.toNat ∧ properF r q
theorem properF_lo {c : UInt8} {r : List UInt8} {gs : List Ag} (hc : c.toNat < 65) (h : properF (c :: r) gs) : properF r gs := by
  rw [properF, if_pos hc] at h; exact h
theorem properF_hi {c : UInt8} {r : List UInt8} {gs : List Ag} (hc : ¬ c.toNat < 65) (h : properF (c :: r) gs) : ∃ a q, gs = a :: q ∧ a.fitz c.toNat ∧ properF r q := by
  rw [properF, if_neg hc] at h; exact h
/-- the row that ZZMethod is given, cell by cell -/
theorem own_cells {w : World} {H n : Nat} {e : TypeId} {sv : Value} {cs : List Value} (h : w.ownsRow H e 4 sv n cs) (hn : 0 < n) : ∃ r c, sv = .slice (some ⟨r, 0, none⟩) n c ∧ r < w.heap.size ∧ ∀ j u, cs[j]? = some u → w.cell? ⟨r, j, none⟩ = some u := by
  rcases h.2 with ⟨_, h0⟩ | ⟨g, cap, cur, rfl, hbg, hg, _⟩
  · omega
  · refine ⟨g, cap, rfl, (Array.getElem?_eq_some_iff.1 hg).1, fun j u hu => ?_⟩
    have := h.cells (g := g) rfl j u hu
    have e : (⟨g, 0, none⟩ : Addr).add j = ⟨g, j, none⟩ := by unfold Addr.add; split <;> simp_all
    rwa [e] at this

end Go.Proofs.YtabeppaehenefaaGreat
