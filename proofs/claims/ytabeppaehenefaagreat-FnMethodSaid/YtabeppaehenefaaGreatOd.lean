/-
  FnMethod: ZZMethod down to its switch.
-/
import Derived.Test.YtabeppaehenefaaGreatOc
import Derived.Deep.CutBlock
namespace Go.Proofs.YtabeppaehenefaaGreat
open Go.RowKit
attribute [local go_sem ↓] Go.wp_at_zero Go.wp_at_succ

theorem ret_ok {a : Act} {w : World} {f : List (Nat × Value)} {x y : Value} {R : Ending → World → Prop} (E : Env a f) (h6 : f.find? (fun z => z.1 == 6) = some (6, x)) (h7 : f.find? (fun z => z.1 == 7) = some (7, y)) (hR : R (.returned (.tuple #[x, y])) w) :
    bodyPost Tryz.prog Tryz.f18 R .ret a w := by
  have e6 := E.get h6
  have e7 := E.get h7
  simp only [Act.eval, Array.getD_eq_getD_getElem?] at e6 e7
  refine bodyPost_ret (v := .tuple #[x, y]) ?_ E.defers hR
  simp [results, Tryz.results18, go_sem, e6, e7]

theorem act_cut {P : Program} {c : Code} {Q : Exit → Act → World → Prop} {a : Act} {w : World} {f : List (Nat × Value)} (h : Env a f) (k : ∀ a, Env a f → c.wp P Q a w) : c.wp P Q a w := k a h

set_option maxRecDepth 100000 in
set_option maxHeartbeats 4000000 in
/-- ZZMethod down to its switch -/
theorem zz_prefix {w : World} {A : Option Addr} {r n c : Nat} {cl me : Int} {kinds : List Int} {R : Ending → World → Prop} (hn : kinds.length = n)
    (hK : Calls Tryz.prog 32 #[.int .u16 cl, .int .u16 me] w fun e w' => e = .returned (.tuple #[.slice (some ⟨w.heap.size, 0, none⟩) n n, .bool true]) ∧ w' = w.alloc (.cells (intCells kinds).toArray 3))
    (hA : ∀ i, i < n → A = some ⟨r, 0, none⟩ ∧ r < w.heap.size ∧ w.cell? ⟨r, i * 4, none⟩ = some (.int .i64 (kinds.getD i 0))) (hn2 : n ≤ 9)
    (hsw : ∀ Q : Exit → Act → World → Prop, (∀ a w, bodyPost Tryz.prog Tryz.f18 R .ret a w → Q .ret a w) → ∀ a, Env a [(44, .agg #[.int .u16 cl, .int .u16 me]), (2, .slice A n c)] → sw0.wp Tryz.prog Q a (w.alloc (.cells (intCells kinds).toArray 3))) :
    Calls Tryz.prog 18 #[.int .u16 cl, .int .u16 me, .slice A n c] w R := by
  have HK := Lib.hid hK
  have HA := Lib.hid hA
  have HSw := Lib.hid hsw
  have HN := Lib.hid hn
  clear hK hA hsw hn
  go_enter Tryz.func18, Tryz.ntmps18
  go_wp2_with fail
  refine HK.out.mono ?_
  rintro e w1 ⟨rfl, rfl⟩
  go_wp2_with fail
  go_loopw [29] (fun i wr => ∃ k : Nat, k ≤ n ∧ i = .int .i64 k ∧ wr = w.alloc (.cells (intCells kinds).toArray 3)) (fun i _ => n - (intOf i).toNat)
  case atStart => exact ⟨0, by omega, rfl, rfl⟩
  case round =>
    obtain ⟨k, hk, rfl, rfl⟩ := hrel
    by_cases hlt : k < n
    · have hk0 : (0 : Int) ≤ (k : Int) := by omega
      have hk1 : (k : Int) < (n : Int) := by omega
      obtain ⟨rfl, hr, d2⟩ := HA.out k hlt
      have d1 : (w.alloc (.cells (intCells kinds).toArray 3)).cell? ⟨w.heap.size, k, none⟩ = some (.int .i64 (kinds.getD k 0)) := by
        rw [(Blk.new w 3 _).cell]
        have hkl : k < kinds.length := by have := HN.out; omega
        simp [intCells, List.getElem?_eq_getElem hkl, List.getD]
      rw [← World.cell?_alloc_lt w (.cells (intCells kinds).toArray 3) ⟨r, k * 4, none⟩ hr] at d2
      generalize kinds.getD k 0 = kk at d1 d2
      go_wp2_with fail
      exact ⟨⟨k + 1, by omega, by go_num, by trivial⟩, by simp [intOf]; omega⟩
    · have hk3 : k = n := by omega
      subst hk3
      go_upto_block 2 with fail
      refine wp_block ?_
      refine act_cut (f := [(44, .agg #[.int .u16 cl, .int .u16 me]), (2, .slice A k c)]) ⟨rfl, rfl, fun x hx => ?_⟩ ?_
      · simp only [List.mem_cons, List.not_mem_nil, or_false] at hx
        rcases hx with rfl | rfl <;> rfl
      · exact HSw.out _ (fun a w h => h)

end Go.Proofs.YtabeppaehenefaaGreat
