/-
  All methods that the package knows, with the kinds of their arguments.
-/
import Derived.Test.YtabeppaehenefaaGreatWd
import Derived.Test.YtabeppaehenefaaGreatK1
import Derived.Deep.AppendLies
namespace Go.Proofs.YtabeppaehenefaaGreat
open Go.RowKit

def argRow (k : Int) : List Value := [.int .i64 k, .int .u64 0, .string ⟨#[]⟩, .slice none 0 0]
def argCells (l : List Int) : List Value := l.flatMap argRow
theorem argCells_len (l : List Int) : (argCells l).length = l.length * 4 := by
  unfold argCells
  induction l with
  | nil => rfl
  | cons a r ih => rw [List.flatMap_cons, List.length_append, ih]; simp [argRow]; omega

/-- the cells of the methods: class, number, and a row of arguments of the call's own -/
def MRows (w : World) (H : Nat) : List ((Int × Int) × List Int) → List Value → Prop
  | [], cs => cs = []
  | (r, ks) :: rest, cs => ∃ a cs', cs = .int .i64 r.1 :: .int .i64 r.2 :: a :: cs' ∧ w.ownsRow H 41 4 a ks.length (argCells ks) ∧ MRows w H rest cs'

theorem own_keep {w w1 : World} {H : Nat} {e : TypeId} {size n : Nat} {v : Value} {xs : List Value} (h : w.ownsRow H e size v n xs) (hk : ∀ g, v.ownBlock = some g → w1.heap[g]? = w.heap[g]?) : w1.ownsRow H e size v n xs := by
  refine ⟨h.1, ?_⟩
  rcases h.2 with hn | ⟨g, cap, cur, rfl, hbg, hg, rest⟩
  · exact .inl hn
  · exact .inr ⟨g, cap, cur, rfl, hbg, (hk g rfl).trans hg, rest⟩
theorem own_below {w w1 : World} {H B : Nat} {e : TypeId} {size n : Nat} {v : Value} {xs : List Value} (h : w.ownsRow H e size v n xs) (hb : Below B w w1) (hB : w.heap.size ≤ B) : w1.ownsRow H e size v n xs :=
  own_keep h fun g hg => hb.block g (by have := (h.lt g hg).2; omega)
theorem own_own_ne {w : World} {H H' : Nat} {e e' : TypeId} {s s' n n' : Nat} {v v' : Value} {xs xs' : List Value} (h : w.ownsRow H e s v n xs) (h' : w.ownsRow H' e' s' v' n' xs') (hne : e ≠ e') : ∀ g, v.ownBlock = some g → some g ≠ v'.ownBlock := by
  intro g hg he
  rcases h.2 with ⟨rfl, _⟩ | ⟨g1, c1, cur1, rfl, _, hh, _⟩
  · simp [Value.ownBlock] at hg
  · have : g1 = g := by simpa [Value.ownBlock] using hg
    subst this
    exact own_blk_ne h' (t := e) (cs := cur1) hh (fun e => hne e.symm) he.symm

theorem own_other {w w1 : World} {H H' : Nat} {e e' : TypeId} {s s' n n' : Nat} {v v' : Value} {xs xs' : List Value} (h : w.ownsRow H e s v n xs) (h' : w.ownsRow H' e' s' v' n' xs') (hg : w.grownBy w1 v'.ownBlock) (hne : e ≠ e') : w1.ownsRow H e s v n xs :=
  own_keep h fun g hv => hg.block g (h.lt g hv).2 (own_own_ne h h' hne g hv)
theorem own_more {w : World} {H H' : Nat} {e : TypeId} {size n : Nat} {v : Value} {xs : List Value} (h : w.ownsRow H e size v n xs) (hH : H' ≤ H) : w.ownsRow H' e size v n xs := by
  refine ⟨h.1, ?_⟩
  rcases h.2 with hn | ⟨g, cap, cur, rfl, hbg, rest⟩
  · exact .inl hn
  · exact .inr ⟨g, cap, cur, rfl, by omega, rest⟩

theorem MRows.keep {w w1 : World} {H : Nat} : ∀ {l : List ((Int × Int) × List Int)} {cs : List Value}, MRows w H l cs → (∀ a n xs, w.ownsRow H 41 4 a n xs → w1.ownsRow H 41 4 a n xs) → MRows w1 H l cs := by
  intro l
  induction l with
  | nil => intro cs h _; exact h
  | cons x r ih =>
    intro cs h hk
    obtain ⟨a, cs', e, h1, h2⟩ := h
    exact ⟨a, cs', e, hk _ _ _ h1, ih h2 hk⟩
theorem MRows.snoc {w : World} {H : Nat} {r : Int × Int} {ks : List Int} {a : Value} (ha : w.ownsRow H 41 4 a ks.length (argCells ks)) : ∀ {l : List ((Int × Int) × List Int)} {cs : List Value}, MRows w H l cs → MRows w H (l ++ [(r, ks)]) (cs ++ [.int .i64 r.1, .int .i64 r.2, a]) := by
  intro l
  induction l with
  | nil => intro cs h; simp only [MRows] at h; subst h; exact ⟨a, [], rfl, ha, rfl⟩
  | cons x q ih =>
    intro cs h
    obtain ⟨a', cs', rfl, h1, h2⟩ := h
    exact ⟨a', _, rfl, h1, ih h2⟩

def allMeths : List ((Int × Int) × List Int) := meths.zip kindsL

theorem ZZKinds_any : ∀ (k : Nat), k < 64 → ∀ (w : World), Calls Tryz.prog 32 #[.int .u16 (meths.getD k (0, 0)).1, .int .u16 (meths.getD k (0, 0)).2] w fun e w' =>
    e = .returned (.tuple #[.slice (some ⟨w.heap.size, 0, none⟩) (kindsL.getD k []).length (kindsL.getD k []).length, .bool true]) ∧ w' = w.alloc (.cells (intCells (kindsL.getD k [])).toArray 3) := by
  intro k hk w
  match k, hk with
  | 0, _ => exact ZZKinds_0 w
  | 1, _ => exact ZZKinds_1 w
  | 2, _ => exact ZZKinds_2 w
  | 3, _ => exact ZZKinds_3 w
  | 4, _ => exact ZZKinds_4 w
  | 5, _ => exact ZZKinds_5 w
  | 6, _ => exact ZZKinds_6 w
  | 7, _ => exact ZZKinds_7 w
  | 8, _ => exact ZZKinds_8 w
  | 9, _ => exact ZZKinds_9 w
  | 10, _ => exact ZZKinds_10 w
  | 11, _ => exact ZZKinds_11 w
  | 12, _ => exact ZZKinds_12 w
  | 13, _ => exact ZZKinds_13 w
  | 14, _ => exact ZZKinds_14 w
  | 15, _ => exact ZZKinds_15 w
  | 16, _ => exact ZZKinds_16 w
  | 17, _ => exact ZZKinds_17 w
  | 18, _ => exact ZZKinds_18 w
  | 19, _ => exact ZZKinds_19 w
  | 20, _ => exact ZZKinds_20 w
  | 21, _ => exact ZZKinds_21 w
  | 22, _ => exact ZZKinds_22 w
  | 23, _ => exact ZZKinds_23 w
  | 24, _ => exact ZZKinds_24 w
  | 25, _ => exact ZZKinds_25 w
  | 26, _ => exact ZZKinds_26 w
  | 27, _ => exact ZZKinds_27 w
  | 28, _ => exact ZZKinds_28 w
  | 29, _ => exact ZZKinds_29 w
  | 30, _ => exact ZZKinds_30 w
  | 31, _ => exact ZZKinds_31 w
  | 32, _ => exact ZZKinds_32 w
  | 33, _ => exact ZZKinds_33 w
  | 34, _ => exact ZZKinds_34 w
  | 35, _ => exact ZZKinds_35 w
  | 36, _ => exact ZZKinds_36 w
  | 37, _ => exact ZZKinds_37 w
  | 38, _ => exact ZZKinds_38 w
  | 39, _ => exact ZZKinds_39 w
  | 40, _ => exact ZZKinds_40 w
  | 41, _ => exact ZZKinds_41 w
  | 42, _ => exact ZZKinds_42 w
  | 43, _ => exact ZZKinds_43 w
  | 44, _ => exact ZZKinds_44 w
  | 45, _ => exact ZZKinds_45 w
  | 46, _ => exact ZZKinds_46 w
  | 47, _ => exact ZZKinds_47 w
  | 48, _ => exact ZZKinds_48 w
  | 49, _ => exact ZZKinds_49 w
  | 50, _ => exact ZZKinds_50 w
  | 51, _ => exact ZZKinds_51 w
  | 52, _ => exact ZZKinds_52 w
  | 53, _ => exact ZZKinds_53 w
  | 54, _ => exact ZZKinds_54 w
  | 55, _ => exact ZZKinds_55 w
  | 56, _ => exact ZZKinds_56 w
  | 57, _ => exact ZZKinds_57 w
  | 58, _ => exact ZZKinds_58 w
  | 59, _ => exact ZZKinds_59 w
  | 60, _ => exact ZZKinds_60 w
  | 61, _ => exact ZZKinds_61 w
  | 62, _ => exact ZZKinds_62 w
  | 63, _ => exact ZZKinds_63 w
  | n + 64, h => omega

theorem meths_len : meths.length = 64 := rfl

theorem info41 : (Tryz.prog.info? 41).map (fun i => (i.zero, i.size, i.bytes)) = some (some (.agg #[.int .i64 0, .int .u64 0, .string ⟨#[]⟩, .slice none 0 0]), 4, 56) := by kernel_rfl
theorem info38 : (Tryz.prog.info? 24).map (fun i => (i.zero, i.size, i.bytes)) = some (some (.agg #[.int .i64 0, .int .i64 0, .slice none 0 0]), 3, 40) := by kernel_rfl

end Go.Proofs.YtabeppaehenefaaGreat
