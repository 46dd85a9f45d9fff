/-
  All methods that the package knows, with the kinds of their arguments.
-/
import Derived.Test.YtkcdakohmfodjaaWd
import Derived.Test.YtkcdakohmfodjaaK1
import Derived.Test.YtkcdakohmfodjaaK2
import Derived.Test.YtkcdakohmfodjaaK3
import Derived.Test.YtkcdakohmfodjaaK4
import Derived.Deep.AppendLies
namespace Go.Proofs.Ytkcdakohmfodjaa
open Go.RowKit

def argRow (k : Int) : List Value := [.int .i64 k, .int .u64 0, .string ⟨#[]⟩, .slice none 0 0]
def argCells (l : List Int) : List Value := l.flatMap argRow
theorem argCells_len (l : List Int) : (argCells l).length = l.length * 4 := by
  unfold argCells
  induction l with
  | nil => rfl
  | cons a r ih => rw [List.flatMap_cons, List.length_append, ih]; simp [argRow]; omega

/-- the cells of the methods: class, number, and a row of arguments of the call's own -/
def MRows (w : World) (H : Nat) : List ((Int × Int) × List Int) → List Value → Prop
  | [], cs => cs = []
  | (r, ks) :: rest, cs => ∃ a cs', cs = .int .i64 r.1 :: .int .i64 r.2 :: a :: cs' ∧ w.ownsRow H 41 4 a ks.length (argCells ks) ∧ MRows w H rest cs'

theorem own_keep {w w1 : World} {H : Nat} {e : TypeId} {size n : Nat} {v : Value} {xs : List Value} (h : w.ownsRow H e size v n xs) (hk : ∀ g, v.ownBlock = some g → w1.heap[g]? = w.heap[g]?) : w1.ownsRow H e size v n xs := by
  refine ⟨h.1, ?_⟩
  rcases h.2 with hn | ⟨g, cap, cur, rfl, hbg, hg, rest⟩
  · exact .inl hn
  · exact .inr ⟨g, cap, cur, rfl, hbg, (hk g rfl).trans hg, rest⟩
theorem own_below {w w1 : World} {H B : Nat} {e : TypeId} {size n : Nat} {v : Value} {xs : List Value} (h : w.ownsRow H e size v n xs) (hb : Below B w w1) (hB : w.heap.size ≤ B) : w1.ownsRow H e size v n xs :=
  own_keep h fun g hg => hb.block g (by have := (h.lt g hg).2; omega)
theorem own_own_ne {w : World} {H H' : Nat} {e e' : TypeId} {s s' n n' : Nat} {v v' : Value} {xs xs' : List Value} (h : w.ownsRow H e s v n xs) (h' : w.ownsRow H' e' s' v' n' xs') (hne : e ≠ e') : ∀ g, v.ownBlock = some g → some g ≠ v'.ownBlock := by
  intro g hg he
  rcases h.2 with ⟨rfl, _⟩ | ⟨g1, c1, cur1, rfl, _, hh, _⟩
  · simp [Value.ownBlock] at hg
  · have : g1 = g := by simpa [Value.ownBlock] using hg
    subst this
    exact own_blk_ne h' (t := e) (cs := cur1) hh (fun e => hne e.symm) he.symm

theorem own_other {w w1 : World} {H H' : Nat} {e e' : TypeId} {s s' n n' : Nat} {v v' : Value} {xs xs' : List Value} (h : w.ownsRow H e s v n xs) (h' : w.ownsRow H' e' s' v' n' xs') (hg : w.grownBy w1 v'.ownBlock) (hne : e ≠ e') : w1.ownsRow H e s v n xs :=
  own_keep h fun g hv => hg.block g (h.lt g hv).2 (own_own_ne h h' hne g hv)
theorem own_more {w : World} {H H' : Nat} {e : TypeId} {size n : Nat} {v : Value} {xs : List Value} (h : w.ownsRow H e size v n xs) (hH : H' ≤ H) : w.ownsRow H' e size v n xs := by
  refine ⟨h.1, ?_⟩
  rcases h.2 with hn | ⟨g, cap, cur, rfl, hbg, rest⟩
  · exact .inl hn
  · exact .inr ⟨g, cap, cur, rfl, by omega, rest⟩

theorem MRows.keep {w w1 : World} {H : Nat} : ∀ {l : List ((Int × Int) × List Int)} {cs : List Value}, MRows w H l cs → (∀ a n xs, w.ownsRow H 41 4 a n xs → w1.ownsRow H 41 4 a n xs) → MRows w1 H l cs := by
  intro l
  induction l with
  | nil => intro cs h _; exact h
  | cons x r ih =>
    intro cs h hk
    obtain ⟨a, cs', e, h1, h2⟩ := h
    exact ⟨a, cs', e, hk _ _ _ h1, ih h2 hk⟩
theorem MRows.snoc {w : World} {H : Nat} {r : Int × Int} {ks : List Int} {a : Value} (ha : w.ownsRow H 41 4 a ks.length (argCells ks)) : ∀ {l : List ((Int × Int) × List Int)} {cs : List Value}, MRows w H l cs → MRows w H (l ++ [(r, ks)]) (cs ++ [.int .i64 r.1, .int .i64 r.2, a]) := by
  intro l
  induction l with
  | nil => intro cs h; simp only [MRows] at h; subst h; exact ⟨a, [], rfl, ha, rfl⟩
  | cons x q ih =>
    intro cs h
    obtain ⟨a', cs', rfl, h1, h2⟩ := h
    exact ⟨a', _, rfl, h1, ih h2⟩

def allMeths : List ((Int × Int) × List Int) := meths.zip kindsL

theorem ZZKinds_any : ∀ (k : Nat), k < 64 → ∀ (w : World), Calls Try.prog 26 #[.int .u16 (meths.getD k (0, 0)).1, .int .u16 (meths.getD k (0, 0)).2] w fun e w' =>
    e = .returned (.tuple #[.slice (some ⟨w.heap.size, 0, none⟩) (kindsL.getD k []).length (kindsL.getD k []).length, .bool true]) ∧ w' = w.alloc (.cells (intCells (kindsL.getD k [])).toArray 3) := by
  intro k hk w
  match k, hk with
  | 0, _ => exact ZZKinds_0 w
  | 1, _ => exact ZZKinds_1 w
  | 2, _ => exact ZZKinds_2 w
  | 3, _ => exact ZZKinds_3 w
  | 4, _ => exact ZZKinds_4 w
  | 5, _ => exact ZZKinds_5 w
  | 6, _ => exact ZZKinds_6 w
  | 7, _ => exact ZZKinds_7 w
  | 8, _ => exact ZZKinds_8 w
  | 9, _ => exact ZZKinds_9 w
  | 10, _ => exact ZZKinds_10 w
  | 11, _ => exact ZZKinds_11 w
  | 12, _ => exact ZZKinds_12 w
  | 13, _ => exact ZZKinds_13 w
  | 14, _ => exact ZZKinds_14 w
  | 15, _ => exact ZZKinds_15 w
  | 16, _ => exact ZZKinds_16 w
  | 17, _ => exact ZZKinds_17 w
  | 18, _ => exact ZZKinds_18 w
  | 19, _ => exact ZZKinds_19 w
  | 20, _ => exact ZZKinds_20 w
  | 21, _ => exact ZZKinds_21 w
  | 22, _ => exact ZZKinds_22 w
  | 23, _ => exact ZZKinds_23 w
  | 24, _ => exact ZZKinds_24 w
  | 25, _ => exact ZZKinds_25 w
  | 26, _ => exact ZZKinds_26 w
  | 27, _ => exact ZZKinds_27 w
  | 28, _ => exact ZZKinds_28 w
  | 29, _ => exact ZZKinds_29 w
  | 30, _ => exact ZZKinds_30 w
  | 31, _ => exact ZZKinds_31 w
  | 32, _ => exact ZZKinds_32 w
  | 33, _ => exact ZZKinds_33 w
  | 34, _ => exact ZZKinds_34 w
  | 35, _ => exact ZZKinds_35 w
  | 36, _ => exact ZZKinds_36 w
  | 37, _ => exact ZZKinds_37 w
  | 38, _ => exact ZZKinds_38 w
  | 39, _ => exact ZZKinds_39 w
  | 40, _ => exact ZZKinds_40 w
  | 41, _ => exact ZZKinds_41 w
  | 42, _ => exact ZZKinds_42 w
  | 43, _ => exact ZZKinds_43 w
  | 44, _ => exact ZZKinds_44 w
  | 45, _ => exact ZZKinds_45 w
  | 46, _ => exact ZZKinds_46 w
  | 47, _ => exact ZZKinds_47 w
  | 48, _ => exact ZZKinds_48 w
  | 49, _ => exact ZZKinds_49 w
  | 50, _ => exact ZZKinds_50 w
  | 51, _ => exact ZZKinds_51 w
  | 52, _ => exact ZZKinds_52 w
  | 53, _ => exact ZZKinds_53 w
  | 54, _ => exact ZZKinds_54 w
  | 55, _ => exact ZZKinds_55 w
  | 56, _ => exact ZZKinds_56 w
  | 57, _ => exact ZZKinds_57 w
  | 58, _ => exact ZZKinds_58 w
  | 59, _ => exact ZZKinds_59 w
  | 60, _ => exact ZZKinds_60 w
  | 61, _ => exact ZZKinds_61 w
  | 62, _ => exact ZZKinds_62 w
  | 63, _ => exact ZZKinds_63 w
  | n + 64, h => omega

theorem meths_len : meths.length = 64 := rfl

theorem info41 : (Try.prog.info? 41).map (fun i => (i.zero, i.size, i.bytes)) = some (some (.agg #[.int .i64 0, .int .u64 0, .string ⟨#[]⟩, .slice none 0 0]), 4, 56) := by kernel_rfl
theorem info38 : (Try.prog.info? 38).map (fun i => (i.zero, i.size, i.bytes)) = some (some (.agg #[.int .i64 0, .int .i64 0, .slice none 0 0]), 3, 40) := by kernel_rfl

set_option maxRecDepth 100000 in
set_option maxHeartbeats 1000000 in
theorem Methods_any (w : World) : Calls Try.prog 13 #[] w fun e w' => ∃ v cs, e = .returned v ∧ w'.ownsRow (w.heap.size + 1) 38 3 v 64 cs ∧ MRows w' (w.heap.size + 1) allMeths cs ∧ Below w.heap.size w w' := by
  obtain ⟨i1, hi1, hz1, hs1, hb1⟩ := info_parts info41
  obtain ⟨i2, hi2, hz2, hs2, hb2⟩ := info_parts info38
  go_enter Try.func13, Try.ntmps13
  go_wp2_with fail
  refine (ZZMethods_any w).mono ?_
  rintro e w1 ⟨rfl, rfl⟩
  go_wp2_with fail
  go_loopw [11, 1] (fun i v wr => ∃ k : Nat, k ≤ 64 ∧ i = .int .i64 k ∧ (∃ cs, wr.ownsRow (w.heap.size + 1) 38 3 v k cs ∧ MRows wr (w.heap.size + 1) (allMeths.take k) cs) ∧ Below (w.heap.size + 1) (w.alloc (.cells methCells.toArray 69)) wr) (fun i _ _ => 64 - (intOf i).toNat)
  case atStart => exact ⟨0, Nat.zero_le _, rfl, ⟨[], World.ownsRow_nil _ _ _ _, rfl⟩, Below.refl _ _⟩
  case round =>
    obtain ⟨k, hk, rfl, ⟨cs, hown, hrows⟩, hbel⟩ := hrel
    obtain ⟨wo, rfl⟩ : ∃ wo : World, wo = wr := ⟨_, rfl⟩
    have hblk : Blk wo w.heap.size 69 methCells.toArray := (Blk.new w 69 methCells.toArray).below hbel (by omega)
    have hsz := hbel.size
    simp at hsz
    by_cases hlt : k < 64
    · obtain ⟨ci, mi, hr⟩ : ∃ ci mi, meths[k]? = some (ci, mi) := ⟨_, _, List.getElem?_eq_getElem (by rw [meths_len]; exact hlt)⟩
      have hg : meths.getD k (0, 0) = (ci, mi) := by simp [List.getD, hr]
      have c0 : wo.cell? ⟨w.heap.size, k * 2, none⟩ = some (.int .u16 ci) := by
        rw [hblk.cell]; have := flat_at row69 2 (fun _ => rfl) meths k 0 _ hr (by omega); simpa [row69, methCells] using this
      have c1 : wo.cell? ⟨w.heap.size, k * 2 + 1, none⟩ = some (.int .u16 mi) := by
        rw [hblk.cell]; have := flat_at row69 2 (fun _ => rfl) meths k 1 _ hr (by omega); simpa [row69, methCells] using this
      have hkk := ZZKinds_any k hlt
      rw [hg] at hkk
      have Hk := Lib.hid hkk
      have Hr := Lib.hid hr
      clear hr hg hkk
      have hk0 : (0 : Int) ≤ (k : Int) := by omega
      have hk1 : (k : Int) < 64 := by omega
      have hcb : 0 ≤ ci ∧ ci ≤ 1000 ∧ 0 ≤ mi ∧ mi ≤ 1000 := by
        have : ∀ r ∈ meths, 0 ≤ r.1 ∧ r.1 ≤ 1000 ∧ 0 ≤ r.2 ∧ r.2 ≤ 1000 := by decide
        exact this _ (List.mem_of_getElem? Hr.out)
      obtain ⟨q1, q2, q3, q4⟩ := hcb
      go_wp2_with fail
      refine (Hk.out _).mono ?_
      rintro e w2 ⟨rfl, rfl⟩
      have hkl : (kindsL.getD k []).length ≤ 100 := by
        have : ∀ l ∈ kindsL, l.length ≤ 100 := by decide
        rcases Nat.lt_or_ge k kindsL.length with h | h
        · simp [List.getD, List.getElem?_eq_getElem h]; exact this _ (List.getElem_mem h)
        · simp [List.getD, List.getElem?_eq_none h]
      have x0 : Blk ((wo.alloc (.cells #[.int .u16 ci, .int .u16 mi] 69)).alloc (.cells #[.int .i64 ci, .int .i64 mi, .slice none 0 0] 38)) (wo.heap.size + 1) 38 #[.int .i64 ci, .int .i64 mi, .slice none 0 0] := by
        have := Blk.new (wo.alloc (.cells #[.int .u16 ci, .int .u16 mi] 69)) 38 #[.int .i64 ci, .int .i64 mi, .slice none 0 0]; simpa using this
      have x1 := x0.alloc (.cells (intCells (kindsL.getD k [])).toArray 3)
      have x2 : Blk (((wo.alloc (.cells #[.int .u16 ci, .int .u16 mi] 69)).alloc (.cells #[.int .i64 ci, .int .i64 mi, .slice none 0 0] 38)).alloc (.cells (intCells (kindsL.getD k [])).toArray 3)) (wo.heap.size + 1 + 1) 3 (intCells (kindsL.getD k [])).toArray := by
        have := Blk.new ((wo.alloc (.cells #[.int .u16 ci, .int .u16 mi] 69)).alloc (.cells #[.int .i64 ci, .int .i64 mi, .slice none 0 0] 38)) 3 (intCells (kindsL.getD k [])).toArray; simpa using this
      have hb3 : Below wo.heap.size wo (((wo.alloc (.cells #[.int .u16 ci, .int .u16 mi] 69)).alloc (.cells #[.int .i64 ci, .int .i64 mi, .slice none 0 0] 38)).alloc (.cells (intCells (kindsL.getD k [])).toArray 3)) :=
        (((Below.refl _ _).alloc (Nat.le_refl _) _).alloc (by simp) _).alloc (by simp; omega) _
      have hz : allMeths[k]? = some ((ci, mi), kindsL.getD k []) := by
        unfold allMeths
        rw [List.getElem?_zip_eq_some]
        refine ⟨Hr.out, ?_⟩
        have : k < kindsL.length := hlt
        simp [List.getD, List.getElem?_eq_getElem this]
      have Hz := Lib.hid hz
      clear hz
      generalize kindsL.getD k [] = ks at *
      simp only [World.size_alloc]
      generalize ((wo.alloc (.cells #[.int .u16 ci, .int .u16 mi] 69)).alloc (.cells #[.int .i64 ci, .int .i64 mi, .slice none 0 0] 38)).alloc (.cells (intCells ks).toArray 3) = w3 at x1 x2 hb3 ⊢
      clear x0
      go_wp2_with fail
      go_loopw [32] (fun i wr => ∃ j : Nat, j ≤ ks.length ∧ i = .int .i64 j ∧ (∃ sv, Blk wr (wo.heap.size + 1) 38 #[.int .i64 ci, .int .i64 mi, sv] ∧ wr.ownsRow wo.heap.size 41 4 sv j (argCells (ks.take j))) ∧ Blk wr (wo.heap.size + 1 + 1) 3 (intCells ks).toArray ∧ Below wo.heap.size wo wr) (fun i _ => ks.length - (intOf i).toNat)
      case atStart => exact ⟨0, Nat.zero_le _, rfl, ⟨_, x1, World.ownsRow_nil _ _ _ _⟩, x2, hb3⟩
      case round =>
        obtain ⟨j, hj, rfl, ⟨sv, hx, hsv⟩, hkb, hbq⟩ := hrel
        by_cases hjlt : j < ks.length
        · obtain ⟨kj, hkj⟩ : ∃ kj, ks[j]? = some kj := ⟨_, List.getElem?_eq_getElem hjlt⟩
          have c2 : wr.cell? ⟨wo.heap.size + 1 + 1, j, none⟩ = some (.int .i64 kj) := by
            rw [hkb.cell]; simp [intCells, hkj]
          have c3 : wr.cell? ⟨wo.heap.size + 1, 2, none⟩ = some sv := by rw [hx.cell]; rfl
          have f3 := hx.frozen 2
          have htk : argCells (ks.take (j + 1)) = argCells (ks.take j) ++ argRow kj := by
            unfold argCells
            rw [List.take_add_one, hkj, List.flatMap_append]
            simp
          have Ht := Lib.hid htk
          clear htk hkj
          have j0 : (0 : Int) ≤ (j : Int) := by omega
          have j1 : (j : Int) < (ks.length : Int) := by omega
          have hlen : 0 < wr.heap.size := by have := hx.lt; omega
          have hsq := hbq.size
          have hsrc : Src Try.prog 4 36 (.slice (some ⟨wr.heap.size, 0, none⟩) 1 1) 1 (argRow kj) (wr.alloc (.cells (argRow kj).toArray 41)) :=
            Src.ofSlice _ Try.underlying36 ⟨wr.heap.size, 0, none⟩ 1 1 (argRow kj) rfl (by have := World.news_of_block (Blk.new wr 41 (argRow kj).toArray); simpa using this) (by intro u hu; simp [argRow] at hu; rcases hu with rfl | rfl | rfl | rfl <;> rfl)
          unfold argRow at hsrc
          go_wp2_with (at_builtin; refine wpList_append_src _ rfl (.tmp 37) (.tmp 40) 36 36 rfl wo.heap.size 41 i1 _ 4 56 Try.underlying36 hi1 hz1 hs1 hb1 rfl sv j (argCells (ks.take j)) rfl (hsv.alloc _) _ 1 _ rfl hsrc (by unfold maxLen; omega) (by omega) (by simp; omega) ?_)
          intro v' w5 hown5 hg5 hat5
          obtain ⟨A5, c5, rfl⟩ := own_shape hown5
          have hx5 : Blk w5 (wo.heap.size + 1) 38 #[.int .i64 ci, .int .i64 mi, sv] := blk_grown (hsv.alloc _) hg5 (hx.alloc _) (by decide)
          have c5 : w5.cell? ⟨wo.heap.size + 1, 2, none⟩ = some sv := by rw [hx5.cell]; rfl
          have f5 := hx5.frozen 2
          go_wp2
          refine ⟨⟨j + 1, by omega, by go_num, ⟨_, by simpa using hx5.set_ 2 _, ?_⟩, ?_, ?_⟩, by simp [intOf]; omega⟩
          · rw [Ht.out]
            exact own_keep hown5 fun g hg => Below.heap_setCell _ _ _ _ (fun e => own_blk_ne hown5 hx5 (by decide) (by rw [hg, e]))
          · exact (blk_grown (hsv.alloc _) hg5 (hkb.alloc _) (by decide)).far (by simp) _
          · exact ((hbq.alloc hsq _).grown hg5 (by simp; omega) (fun g hg => (hsv.lt g hg).1)).setCell (by simp) _
        · have hjn : j = ks.length := by omega
          subst hjn
          have c0 : wr.cell? ⟨wo.heap.size + 1, 0, none⟩ = some (.int .i64 ci) := by rw [hx.cell]; rfl
          have c1 : wr.cell? ⟨wo.heap.size + 1, 1, none⟩ = some (.int .i64 mi) := by rw [hx.cell]; rfl
          have c2 : wr.cell? ⟨wo.heap.size + 1, 2, none⟩ = some sv := by rw [hx.cell]; rfl
          have hq := own_below hown hbq (Nat.le_refl _)
          have hsq := hbq.size
          obtain ⟨A6, c6, rfl⟩ := own_shape hsv
          have hsrc : Src Try.prog 3 34 (.slice (some ⟨wr.heap.size, 0, none⟩) 1 1) 1 [.int .i64 ci, .int .i64 mi, .slice A6 ks.length c6] (wr.alloc (.cells #[.int .i64 ci, .int .i64 mi, .slice A6 ks.length c6] 38)) :=
            Src.ofSlice _ Try.underlying34 ⟨wr.heap.size, 0, none⟩ 1 1 _ rfl (by have := World.news_of_block (Blk.new wr 38 #[.int .i64 ci, .int .i64 mi, .slice A6 ks.length c6]); simpa using this) (by intro u hu; simp at hu; rcases hu with rfl | rfl | rfl <;> rfl)
          go_wp2_with (at_builtin; refine wpList_append_src _ rfl (.tmp 44) (.tmp 46) 34 34 rfl (w.heap.size + 1) 38 i2 _ 3 40 Try.underlying34 hi2 hz2 hs2 hb2 rfl u1 k cs rfl (hq.alloc _) _ 1 _ rfl hsrc (by unfold maxLen; omega) (by omega) (by simp; omega) ?_)
          intro v' w5 hown5 hg5 hat5
          go_wp2
          have hbw : Below (w.heap.size + 1) (w.alloc (.cells methCells.toArray 69)) w5 :=
            (((hbel.trans (hbq.mono (by omega))).alloc (by omega) _).grown hg5 (by simp; omega) (fun g hg => (hown.lt g hg).1))
          have hs1 : (wr.alloc (.cells #[.int .i64 ci, .int .i64 mi, .slice A6 ks.length c6] 38)).ownsRow (w.heap.size + 1) 41 4 (.slice A6 ks.length c6) ks.length (argCells ks) := by
            have := (own_more hsv (H' := w.heap.size + 1) (by omega)).alloc (.cells #[.int .i64 ci, .int .i64 mi, .slice A6 ks.length c6] 38)
            simpa using this
          refine ⟨⟨k + 1, by omega, by go_num, ⟨_, hown5, ?_⟩, hbw⟩, by simp [intOf]; omega⟩
          rw [List.take_add_one, Hz.out]
          refine MRows.snoc (r := (ci, mi)) (ks := ks) (own_other hs1 (hq.alloc _) hg5 (by decide)) (hrows.keep fun a n xs ha => ?_)
          exact own_other ((own_below ha hbq (Nat.le_refl _)).alloc _) (hq.alloc _) hg5 (by decide)
    · have hk64 : k = 64 := by omega
      subst hk64
      go_wp2
      go_ret
      refine ⟨_, _, rfl, hown, ?_, ((Below.refl _ _).alloc (Nat.le_refl _) _).trans (hbel.mono (by omega))⟩
      have : allMeths.take 64 = allMeths := rfl
      rw [this] at hrows
      exact hrows

end Go.Proofs.Ytkcdakohmfodjaa
