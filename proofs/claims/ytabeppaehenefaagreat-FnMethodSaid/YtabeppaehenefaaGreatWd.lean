/-
  The letters of a method.
-/
import Derived.Test.YtabeppaehenefaaGreatWc
namespace Go.Proofs.YtabeppaehenefaaGreat
open Go.RowKit

def isM (c m : Int) (r : Int × Int × List UInt8) : Bool := r.1 == c && r.2.1 == m
/-- the letters of a method's arguments, if there is such a method -/
def letters (c m : Int) : Option (List UInt8) := (known.find? (isM c m)).map (·.2.2)

theorem flat_at {α β : Type} (f : α → List β) (n : Nat) (hf : ∀ a, (f a).length = n) : ∀ (l : List α) (k j : Nat) (x : α), l[k]? = some x → j < n → (l.flatMap f)[k * n + j]? = (f x)[j]? := by
  intro l
  induction l with
  | nil => intro k j x h _; simp at h
  | cons a r ih =>
    intro k j x h hj
    rw [List.flatMap_cons]
    cases k with
    | zero =>
      simp at h
      subst h
      rw [Nat.zero_mul, Nat.zero_add, List.getElem?_append_left (by rw [hf]; exact hj)]
    | succ k =>
      simp at h
      rw [List.getElem?_append_right (by rw [hf, Nat.succ_mul]; omega), hf, show (k + 1) * n + j - n = k * n + j by rw [Nat.succ_mul]; omega]
      exact ih k j x h hj

theorem known_len : known.length = 64 := rfl

theorem find_at {α : Type} (p : α → Bool) : ∀ (l : List α) (k : Nat) (x d : α), l[k]? = some x → p x = true → (∀ j, j < k → p (l.getD j d) = false) → l.find? p = some x := by
  intro l
  induction l with
  | nil => intro k x d h; simp at h
  | cons a r ih =>
    intro k x d h hp hno
    cases k with
    | zero => simp at h; subst h; simp [hp]
    | succ k =>
      have h0 := hno 0 (by omega)
      simp at h h0
      rw [List.find?_cons, h0]
      exact ih k x d h hp (fun j hj => by have := hno (j + 1) (by omega); simpa using this)
theorem find_none {α : Type} (p : α → Bool) (l : List α) (d : α) (hno : ∀ j, j < l.length → p (l.getD j d) = false) : l.find? p = none := by
  rw [List.find?_eq_none]
  intro x hx
  obtain ⟨j, hj, rfl⟩ := List.getElem_of_mem hx
  have := hno j hj
  simp [List.getD, List.getElem?_eq_getElem hj] at this
  simp [this]
theorem letters_hit {c m : Int} {k : Nat} {ls : List UInt8} (h : known[k]? = some (c, m, ls)) (hno : ∀ j, j < k → isM c m (known.getD j default) = false) : letters c m = some ls := by
  unfold letters
  rw [find_at (isM c m) known k (c, m, ls) default h (by simp [isM]) hno]
  rfl
theorem letters_miss {c m : Int} (hno : ∀ j, j < 64 → isM c m (known.getD j default) = false) : letters c m = none := by
  unfold letters
  rw [find_none (isM c m) known default (by rw [known_len]; exact hno)]
  rfl

set_option maxRecDepth 100000 in
set_option maxHeartbeats 1000000 in
theorem Letters_any (c m : Int) (w : World) : Calls Tryz.prog 12 #[.int .i64 c, .int .i64 m] w fun e w' =>
    e = .returned (.tuple #[.string ⟨((letters c m).getD []).toArray⟩, .bool (letters c m).isSome]) ∧ Below w.heap.size w w' := by
  go_enter Tryz.func12, Tryz.ntmps12
  go_wp2_with fail
  refine (Known_any w).mono ?_
  rintro e w1 ⟨rfl, rfl⟩
  go_wp2_with fail
  go_loopw [10] (fun i wr => ∃ k : Nat, k ≤ 64 ∧ i = .int .i64 k ∧ (∀ j, j < k → isM c m (known.getD j default) = false) ∧ Below (w.heap.size + 1) (w.alloc (.cells knownCells.toArray 78)) wr) (fun i _ => 64 - (intOf i).toNat)
  case atStart => exact ⟨0, Nat.zero_le _, rfl, fun j hj => by omega, Below.refl _ _⟩
  case round =>
    obtain ⟨k, hk, rfl, hno, hbel⟩ := hrel
    have hblk : Blk wr w.heap.size 78 knownCells.toArray := (Blk.new w 78 knownCells.toArray).below hbel (by omega)
    by_cases hlt : k < 64
    · obtain ⟨ci, mi, ls, hr⟩ : ∃ ci mi ls, known[k]? = some (ci, mi, ls) := ⟨_, _, _, List.getElem?_eq_getElem (by rw [known_len]; exact hlt)⟩
      have hg : known.getD k default = (ci, mi, ls) := by simp [List.getD, hr]
      have c0 : wr.cell? ⟨w.heap.size, k * 3, none⟩ = some (.int .i64 ci) := by
        rw [hblk.cell]; have := flat_at row65 3 (fun _ => rfl) known k 0 _ hr (by omega); simpa [row65, knownCells] using this
      have c1 : wr.cell? ⟨w.heap.size, k * 3 + 1, none⟩ = some (.int .i64 mi) := by
        rw [hblk.cell]; have := flat_at row65 3 (fun _ => rfl) known k 1 _ hr (by omega); simpa [row65, knownCells] using this
      have c2 : wr.cell? ⟨w.heap.size, k * 3 + 2, none⟩ = some (.string ⟨ls.toArray⟩) := by
        rw [hblk.cell]; have := flat_at row65 3 (fun _ => rfl) known k 2 _ hr (by omega); simpa [row65, knownCells] using this
      have Hr := Lib.hid hr
      have Hg := Lib.hid hg
      clear hr hg
      have hk0 : (0 : Int) ≤ (k : Int) := by omega
      have hk1 : (k : Int) < 64 := by omega
      have hsz := hbel.size
      simp at hsz
      have hout : ∀ o, Below w.heap.size w (wr.alloc o) := fun o => (((Below.refl _ _).alloc (Nat.le_refl _) _).trans (hbel.mono (by omega))).alloc (by omega) o
      have hrnd : ∀ o, Below (w.heap.size + 1) (w.alloc (.cells knownCells.toArray 78)) (wr.alloc o) := fun o => hbel.alloc (by omega) o
      by_cases h1 : ci = c
      · subst h1
        by_cases h2 : mi = m
        · subst h2
          have hl := letters_hit Hr.out hno
          have Hl := Lib.hid hl
          clear hl
          go_wp2
          go_ret2
          refine ⟨?_, hout _⟩
          rw [Hl.out]
          rfl
        · have h2' : (mi == m) = false := by simp [h2]
          have hn : ∀ j, j < k + 1 → isM ci m (known.getD j default) = false := by
            intro j hj
            rcases Nat.lt_succ_iff_lt_or_eq.1 hj with h | rfl
            · exact hno j h
            · rw [Hg.out]; simp [isM, h2]
          have Hn := Lib.hid hn
          clear hn h2
          go_wp2
          go_roundw
          case rel => exact ⟨k + 1, by omega, by go_num, Hn.out, hrnd _⟩
          case measure => simp [intOf]; omega
      · have h1' : (ci == c) = false := by simp [h1]
        have hn : ∀ j, j < k + 1 → isM c m (known.getD j default) = false := by
          intro j hj
          rcases Nat.lt_succ_iff_lt_or_eq.1 hj with h | rfl
          · exact hno j h
          · rw [Hg.out]; simp [isM, h1]
        have Hn := Lib.hid hn
        clear hn h1
        go_wp2
        go_roundw
        case rel => exact ⟨k + 1, by omega, by go_num, Hn.out, hrnd _⟩
        case measure => simp [intOf]; omega
    · have hk64 : k = 64 := by omega
      subst hk64
      have hl := letters_miss hno
      have Hl := Lib.hid hl
      clear hl
      go_wp2
      go_ret2
      refine ⟨?_, ((Below.refl _ _).alloc (Nat.le_refl _) _).trans (hbel.mono (by omega))⟩
      rw [Hl.out]
      rfl

end Go.Proofs.YtabeppaehenefaaGreat
