/-
  FnMethod: which arguments are proper ones (letter by letter; printed by a program).
-/
import Derived.Test.YtabeppaehenefaaGreatMa
namespace Go.Proofs.YtabeppaehenefaaGreat
open Go.RowKit
attribute [local go_sem ↓] Go.wp_at_zero Go.wp_at_succ

/-- what a proper argument of a letter is -/
def Ag.fit (l : Nat) (a : Ag) : Prop :=
  match l with
  | 111 => a.fs.len = 0 ∧ a.k = 0 ∧ a.n ≤ 255
  | 115 => a.fs.len = 0 ∧ a.k = 1 ∧ a.n ≤ 65535
  | 108 => a.fs.len = 0 ∧ a.k = 2 ∧ a.n < 4294967296
  | 113 => a.fs.len = 0 ∧ a.k = 3
  | 83 => a.fs.len = 0 ∧ a.k = 4 ∧ a.t.size ≤ 255
  | 76 => a.fs.len = 0 ∧ a.k = 5 ∧ a.t.size ≤ 1000
  | 98 => a.fs.len = 0 ∧ a.k = 6 ∧ a.n ≤ 1
  | 116 => a.k = 7 ∧ ∃ r' : Int, a.fs.fit 6 none 2000 = some r'
  | _ => False

def ArgPost (l : Nat) (a : Ag) (w : World) (e : Ending) (w' : World) : Prop := ∃ b : Bool, e = .returned (.bool b) ∧ Below w.heap.size w w' ∧ (b = true → a.fit l)

theorem arg_false (l : Nat) (a : Ag) {w w' : World} (hb : Below w.heap.size w w') : ArgPost l a w (.returned (.bool false)) w' := ⟨false, rfl, hb, fun h => nomatch h⟩
theorem arg_true {l : Nat} {a : Ag} {w w' : World} (hb : Below w.heap.size w w') (h : a.fit l) : ArgPost l a w (.returned (.bool true)) w' := ⟨true, rfl, hb, fun _ => h⟩
theorem arg_if {l : Nat} {a : Ag} {w w' : World} {b : Bool} (hb : Below w.heap.size w w') (h : b = true → a.fit l) : ArgPost l a w (.returned (.bool b)) w' := ⟨b, rfl, hb, h⟩

set_option maxRecDepth 100000 in
set_option maxHeartbeats 4000000 in
theorem arg_111 (a : Ag) (A : Option Addr) (c : Nat) (w : World) (hok : a.ok) :
    Calls Tryz.prog 13 #[.int .u8 111, .agg #[.int .i64 a.k, .int .u64 a.n, .string a.t, .slice A a.fs.len c]] w (ArgPost 111 a w) := by
  obtain ⟨k, n, t, fs⟩ := a
  obtain ⟨⟨k1, k2⟩, ⟨n1, n2⟩, t1, _, f2⟩ := hok
  simp only at k1 k2 n1 n2 t1 f2 ⊢
  have hb : Below w.heap.size w (w.alloc (.cells #[.int .i64 k, .int .u64 n, .string t, .slice A fs.len c] 45)) := (Below.refl _ _).alloc (Nat.le_refl _) _
  have HB := Lib.hid hb
  clear hb
  have hfs : (fs.len : Int) = 0 ∨ 0 < (fs.len : Int) := by omega
  have hne : t.toList.isEmpty = true ∨ t.toList.isEmpty = false := by cases t.toList.isEmpty <;> simp
  have hn0 : n = 0 ∨ n ≠ 0 := by omega
  have hk0 : k = 0 ∨ k ≠ 0 := by omega
  generalize hlen : (fs.len : Int) = L at hfs ⊢
  rcases hfs with rfl | hfs <;> rcases hne with hne | hne <;> rcases hn0 with rfl | hn <;> rcases hk0 with rfl | hk
  all_goals go_enter Tryz.func13, Tryz.ntmps13
  all_goals go_wp2_with fail
  all_goals try go_ret
  all_goals first
    | exact arg_false _ _ HB.out
    | (refine arg_true HB.out ?_; simp [Ag.fit] <;> omega)
    | (refine arg_if HB.out ?_; intro h; simp at h; simp [Ag.fit]; omega)

set_option maxRecDepth 100000 in
set_option maxHeartbeats 4000000 in
theorem arg_115 (a : Ag) (A : Option Addr) (c : Nat) (w : World) (hok : a.ok) :
    Calls Tryz.prog 13 #[.int .u8 115, .agg #[.int .i64 a.k, .int .u64 a.n, .string a.t, .slice A a.fs.len c]] w (ArgPost 115 a w) := by
  obtain ⟨k, n, t, fs⟩ := a
  obtain ⟨⟨k1, k2⟩, ⟨n1, n2⟩, t1, _, f2⟩ := hok
  simp only at k1 k2 n1 n2 t1 f2 ⊢
  have hb : Below w.heap.size w (w.alloc (.cells #[.int .i64 k, .int .u64 n, .string t, .slice A fs.len c] 45)) := (Below.refl _ _).alloc (Nat.le_refl _) _
  have HB := Lib.hid hb
  clear hb
  have hfs : (fs.len : Int) = 0 ∨ 0 < (fs.len : Int) := by omega
  have hne : t.toList.isEmpty = true ∨ t.toList.isEmpty = false := by cases t.toList.isEmpty <;> simp
  have hn0 : n = 0 ∨ n ≠ 0 := by omega
  have hk0 : k = 1 ∨ k ≠ 1 := by omega
  generalize hlen : (fs.len : Int) = L at hfs ⊢
  rcases hfs with rfl | hfs <;> rcases hne with hne | hne <;> rcases hn0 with rfl | hn <;> rcases hk0 with rfl | hk
  all_goals go_enter Tryz.func13, Tryz.ntmps13
  all_goals go_wp2_with fail
  all_goals try go_ret
  all_goals first
    | exact arg_false _ _ HB.out
    | (refine arg_true HB.out ?_; simp [Ag.fit] <;> omega)
    | (refine arg_if HB.out ?_; intro h; simp at h; simp [Ag.fit]; omega)

set_option maxRecDepth 100000 in
set_option maxHeartbeats 4000000 in
theorem arg_108 (a : Ag) (A : Option Addr) (c : Nat) (w : World) (hok : a.ok) :
    Calls Tryz.prog 13 #[.int .u8 108, .agg #[.int .i64 a.k, .int .u64 a.n, .string a.t, .slice A a.fs.len c]] w (ArgPost 108 a w) := by
  obtain ⟨k, n, t, fs⟩ := a
  obtain ⟨⟨k1, k2⟩, ⟨n1, n2⟩, t1, _, f2⟩ := hok
  simp only at k1 k2 n1 n2 t1 f2 ⊢
  have hb : Below w.heap.size w (w.alloc (.cells #[.int .i64 k, .int .u64 n, .string t, .slice A fs.len c] 45)) := (Below.refl _ _).alloc (Nat.le_refl _) _
  have HB := Lib.hid hb
  clear hb
  have hfs : (fs.len : Int) = 0 ∨ 0 < (fs.len : Int) := by omega
  have hne : t.toList.isEmpty = true ∨ t.toList.isEmpty = false := by cases t.toList.isEmpty <;> simp
  have hn0 : n = 0 ∨ n ≠ 0 := by omega
  have hk0 : k = 2 ∨ k ≠ 2 := by omega
  generalize hlen : (fs.len : Int) = L at hfs ⊢
  rcases hfs with rfl | hfs <;> rcases hne with hne | hne <;> rcases hn0 with rfl | hn <;> rcases hk0 with rfl | hk
  all_goals go_enter Tryz.func13, Tryz.ntmps13
  all_goals go_wp2_with fail
  all_goals try go_ret
  all_goals first
    | exact arg_false _ _ HB.out
    | (refine arg_true HB.out ?_; simp [Ag.fit] <;> omega)
    | (refine arg_if HB.out ?_; intro h; simp at h; simp [Ag.fit]; omega)

set_option maxRecDepth 100000 in
set_option maxHeartbeats 4000000 in
theorem arg_113 (a : Ag) (A : Option Addr) (c : Nat) (w : World) (hok : a.ok) :
    Calls Tryz.prog 13 #[.int .u8 113, .agg #[.int .i64 a.k, .int .u64 a.n, .string a.t, .slice A a.fs.len c]] w (ArgPost 113 a w) := by
  obtain ⟨k, n, t, fs⟩ := a
  obtain ⟨⟨k1, k2⟩, ⟨n1, n2⟩, t1, _, f2⟩ := hok
  simp only at k1 k2 n1 n2 t1 f2 ⊢
  have hb : Below w.heap.size w (w.alloc (.cells #[.int .i64 k, .int .u64 n, .string t, .slice A fs.len c] 45)) := (Below.refl _ _).alloc (Nat.le_refl _) _
  have HB := Lib.hid hb
  clear hb
  have hfs : (fs.len : Int) = 0 ∨ 0 < (fs.len : Int) := by omega
  have hne : t.toList.isEmpty = true ∨ t.toList.isEmpty = false := by cases t.toList.isEmpty <;> simp
  have hn0 : n = 0 ∨ n ≠ 0 := by omega
  have hk0 : k = 3 ∨ k ≠ 3 := by omega
  generalize hlen : (fs.len : Int) = L at hfs ⊢
  rcases hfs with rfl | hfs <;> rcases hne with hne | hne <;> rcases hn0 with rfl | hn <;> rcases hk0 with rfl | hk
  all_goals go_enter Tryz.func13, Tryz.ntmps13
  all_goals go_wp2_with fail
  all_goals try go_ret
  all_goals first
    | exact arg_false _ _ HB.out
    | (refine arg_true HB.out ?_; simp [Ag.fit] <;> omega)
    | (refine arg_if HB.out ?_; intro h; simp at h; simp [Ag.fit]; omega)

set_option maxRecDepth 100000 in
set_option maxHeartbeats 4000000 in
theorem arg_83 (a : Ag) (A : Option Addr) (c : Nat) (w : World) (hok : a.ok) :
    Calls Tryz.prog 13 #[.int .u8 83, .agg #[.int .i64 a.k, .int .u64 a.n, .string a.t, .slice A a.fs.len c]] w (ArgPost 83 a w) := by
  obtain ⟨k, n, t, fs⟩ := a
  obtain ⟨⟨k1, k2⟩, ⟨n1, n2⟩, t1, _, f2⟩ := hok
  simp only at k1 k2 n1 n2 t1 f2 ⊢
  have hb : Below w.heap.size w (w.alloc (.cells #[.int .i64 k, .int .u64 n, .string t, .slice A fs.len c] 45)) := (Below.refl _ _).alloc (Nat.le_refl _) _
  have HB := Lib.hid hb
  clear hb
  have hfs : (fs.len : Int) = 0 ∨ 0 < (fs.len : Int) := by omega
  have hne : t.toList.isEmpty = true ∨ t.toList.isEmpty = false := by cases t.toList.isEmpty <;> simp
  have hn0 : n = 0 ∨ n ≠ 0 := by omega
  have hk0 : k = 4 ∨ k ≠ 4 := by omega
  generalize hlen : (fs.len : Int) = L at hfs ⊢
  rcases hfs with rfl | hfs <;> rcases hne with hne | hne <;> rcases hn0 with rfl | hn <;> rcases hk0 with rfl | hk
  all_goals go_enter Tryz.func13, Tryz.ntmps13
  all_goals go_wp2_with fail
  all_goals try go_ret
  all_goals first
    | exact arg_false _ _ HB.out
    | (refine arg_true HB.out ?_; simp [Ag.fit] <;> omega)
    | (refine arg_if HB.out ?_; intro h; simp at h; simp [Ag.fit]; omega)

set_option maxRecDepth 100000 in
set_option maxHeartbeats 4000000 in
theorem arg_76 (a : Ag) (A : Option Addr) (c : Nat) (w : World) (hok : a.ok) :
    Calls Tryz.prog 13 #[.int .u8 76, .agg #[.int .i64 a.k, .int .u64 a.n, .string a.t, .slice A a.fs.len c]] w (ArgPost 76 a w) := by
  obtain ⟨k, n, t, fs⟩ := a
  obtain ⟨⟨k1, k2⟩, ⟨n1, n2⟩, t1, _, f2⟩ := hok
  simp only at k1 k2 n1 n2 t1 f2 ⊢
  have hb : Below w.heap.size w (w.alloc (.cells #[.int .i64 k, .int .u64 n, .string t, .slice A fs.len c] 45)) := (Below.refl _ _).alloc (Nat.le_refl _) _
  have HB := Lib.hid hb
  clear hb
  have hfs : (fs.len : Int) = 0 ∨ 0 < (fs.len : Int) := by omega
  have hne : t.toList.isEmpty = true ∨ t.toList.isEmpty = false := by cases t.toList.isEmpty <;> simp
  have hn0 : n = 0 ∨ n ≠ 0 := by omega
  have hk0 : k = 5 ∨ k ≠ 5 := by omega
  generalize hlen : (fs.len : Int) = L at hfs ⊢
  rcases hfs with rfl | hfs <;> rcases hne with hne | hne <;> rcases hn0 with rfl | hn <;> rcases hk0 with rfl | hk
  all_goals go_enter Tryz.func13, Tryz.ntmps13
  all_goals go_wp2_with fail
  all_goals try go_ret
  all_goals first
    | exact arg_false _ _ HB.out
    | (refine arg_true HB.out ?_; simp [Ag.fit] <;> omega)
    | (refine arg_if HB.out ?_; intro h; simp at h; simp [Ag.fit]; omega)

set_option maxRecDepth 100000 in
set_option maxHeartbeats 4000000 in
theorem arg_98 (a : Ag) (A : Option Addr) (c : Nat) (w : World) (hok : a.ok) :
    Calls Tryz.prog 13 #[.int .u8 98, .agg #[.int .i64 a.k, .int .u64 a.n, .string a.t, .slice A a.fs.len c]] w (ArgPost 98 a w) := by
  obtain ⟨k, n, t, fs⟩ := a
  obtain ⟨⟨k1, k2⟩, ⟨n1, n2⟩, t1, _, f2⟩ := hok
  simp only at k1 k2 n1 n2 t1 f2 ⊢
  have hb : Below w.heap.size w (w.alloc (.cells #[.int .i64 k, .int .u64 n, .string t, .slice A fs.len c] 45)) := (Below.refl _ _).alloc (Nat.le_refl _) _
  have HB := Lib.hid hb
  clear hb
  have hfs : (fs.len : Int) = 0 ∨ 0 < (fs.len : Int) := by omega
  have hne : t.toList.isEmpty = true ∨ t.toList.isEmpty = false := by cases t.toList.isEmpty <;> simp
  have hn0 : n = 0 ∨ n ≠ 0 := by omega
  have hk0 : k = 6 ∨ k ≠ 6 := by omega
  generalize hlen : (fs.len : Int) = L at hfs ⊢
  rcases hfs with rfl | hfs <;> rcases hne with hne | hne <;> rcases hn0 with rfl | hn <;> rcases hk0 with rfl | hk
  all_goals go_enter Tryz.func13, Tryz.ntmps13
  all_goals go_wp2_with fail
  all_goals try go_ret
  all_goals first
    | exact arg_false _ _ HB.out
    | (refine arg_true HB.out ?_; simp [Ag.fit] <;> omega)
    | (refine arg_if HB.out ?_; intro h; simp at h; simp [Ag.fit]; omega)

end Go.Proofs.YtabeppaehenefaaGreat
