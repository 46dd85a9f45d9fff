/-
  Properness, all of it: Fits.
-/
import Derived.Test.YtabeppaehenefaaGreatPf
import Derived.Test.YtabeppaehenefaaGreatPw
namespace Go.Proofs.YtabeppaehenefaaGreat
open Go.RowKit

theorem proper_value (d : Nat) (hd : d ≤ 10) (hrec : d = 0 ∨ (ProperT (d - 1) ∧ ProperV (d - 1))) : ProperV d := by
  intro k
  by_cases k1 : k = 116
  · subst k1; exact pv_116 d hd hrec
  by_cases k2 : k = 98
  · subst k2; exact pv_98 d hd hrec
  by_cases k3 : k = 66
  · subst k3; exact pv_66 d hd hrec
  by_cases k4 : k = 115
  · subst k4; exact pv_115 d hd hrec
  by_cases k5 : k = 73
  · subst k5; exact pv_73 d hd hrec
  by_cases k6 : k = 108
  · subst k6; exact pv_108 d hd hrec
  by_cases k7 : k = 84
  · subst k7; exact pv_84 d hd hrec
  by_cases k8 : k = 102
  · subst k8; exact pv_102 d hd hrec
  by_cases k9 : k = 100
  · subst k9; exact pv_100 d hd hrec
  by_cases k10 : k = 68
  · subst k10; exact pv_68 d hd hrec
  by_cases k11 : k = 83
  · subst k11; exact pv_83 d hd hrec
  by_cases k12 : k = 120
  · subst k12; exact pv_120 d hd hrec
  by_cases k13 : k = 65
  · subst k13; exact pv_65 d hd hrec
  by_cases k14 : k = 70
  · subst k14; exact pv_70 d hd hrec
  by_cases k15 : k = 86
  · subst k15; exact pv_86 d hd hrec
  exact pv_none k ⟨k1, k2, k3, k4, k5, k6, k7, k8, k9, k10, k11, k12, k13, k14, k15⟩ d hd hrec

theorem all_proper : ∀ d : Nat, d ≤ 10 → ProperV d ∧ ProperT d
  | 0, _ => by
    have h := proper_value 0 (by omega) (.inl rfl)
    exact ⟨h, proper_table 0 (by omega) h⟩
  | d + 1, hd => by
    have ih := all_proper d (by omega)
    have h := proper_value (d + 1) hd (.inr (by simpa using ⟨ih.2, ih.1⟩))
    exact ⟨h, proper_table (d + 1) hd h⟩

def FitsPost (fs : Fs) (w : World) (e : Ending) (w' : World) : Prop := ∃ b : Bool, e = .returned (.bool b) ∧ Below w.heap.size w w' ∧ (b = true → ∃ r' : Int, fs.fit 6 none 2000 = some r')

/-- Fits: where it says so, the table is proper, with room for it -/
theorem Fits_any (fs : Fs) (A : Option Addr) (c : Nat) (xs : List Value) (p : Nat → Prop) (w : World) (hok : fs.ok) (hlen : fs.len ≤ 140737488355328) (hR : Rd w p A xs) (hF : FsC w p fs xs) (hc : fs.len ≤ c) (hp : ∀ g, p g → g < w.heap.size) :
    Calls Tryz.prog 26 #[.slice A fs.len c] w (FitsPost fs w) := by
  have hk : ∀ g, p g → (w.alloc (.cells #[.int .i64 2000] 3)).heap[g]? = w.heap[g]? := fun g hg => Below.heap_alloc _ _ _ (hp g hg)
  have hcall := (all_proper 6 (by omega)).2 fs A c xs p 2000 w.heap.size (w.alloc (.cells #[.int .i64 2000] 3)) hok hlen (hR.keep hk) (hF.keep hk) hc (fun g hg => ⟨by have := hp g hg; simp; omega, by have := hp g hg; omega⟩) (Blk.new w 3 _) (by omega) (by omega)
  have hcall2 := hcall.mono (R' := fun e w1 => ∃ b : Bool, e = .returned (.bool b) ∧ Below w.heap.size w w1 ∧ (b = true → ∃ r' : Int, fs.fit 6 none 2000 = some r')) (by
    rintro e w1 ⟨b, rfl, h1, h2⟩
    exact ⟨b, rfl, ((Below.refl w.heap.size w).alloc (Nat.le_refl _) (.cells #[.int .i64 2000] 3)).trans (h1.below (by simp) (by simp)), fun h => ⟨_, (h2 h).choose_spec.1⟩⟩)
  have HC := Lib.hid hcall2
  clear hcall hcall2 hok hR hF hk hp
  go_enter Tryz.func26, Tryz.ntmps26
  go_wp2_with fail
  refine HC.out.mono ?_
  rintro e w1 ⟨b, rfl, h1, h2⟩
  have H1 := Lib.hid h1
  have H2 := Lib.hid h2
  clear h1 h2
  go_wp2
  go_ret
  exact ⟨b, rfl, H1.out, H2.out⟩

end Go.Proofs.YtabeppaehenefaaGreat
