/-
  Values and tables as the package has them: what an interface value, a map reads as.
  The package's writer: the type assertions of the type switch, and numbers stored behind a letter.
-/
import Derived.Test.YtabeppaehenefaaGreatIa
import Derived.Maps.OwnSet
namespace Go.Proofs.YtabeppaehenefaaGreat
open Go.RowKit

/-- an element of a map that is an interface value, as it stands -/
def anyElem (v : Value) : Option (DataW Value × List MemPlace) := some (.held v, [])

/-- the interface value of a letter without parts -/
def AnyS (k n : Int) (f : Nat) (s : Int) (t : ByteArray) (x : Value) : Prop :=
  (k = 116 ∧ ∃ b : Bool, n = (if b = true then 1 else 0) ∧ x = .iface 4 (.bool b)) ∨ (k = 98 ∧ x = .iface 289 (.int .i8 n)) ∨ (k = 66 ∧ x = .iface 5 (.int .u8 n)) ∨ (k = 115 ∧ x = .iface 290 (.int .i16 n)) ∨
  (k = 73 ∧ x = .iface 21 (.int .i32 n)) ∨ (k = 108 ∧ x = .iface 2 (.int .i64 n)) ∨ (k = 102 ∧ x = .iface 291 (.float .f32 (f32 f))) ∨ (k = 100 ∧ x = .iface 89 (.float .f64 f)) ∨
  (k = 68 ∧ x = .iface 293 (.agg #[.int .u8 s, .int .i32 n])) ∨ (k = 84 ∧ x = .iface 219 (.agg #[.int .u64 0, .int .i64 (n + 62135596800), .pointer none])) ∨
  (k = 83 ∧ x = .iface 9 (.string t)) ∨ (k = 86 ∧ x = .nilIface)

def Fs.names : Fs → List (List UInt8)
  | .nil => []
  | .cons name _ r => name.data.toList :: r.names

/-- block b is a map with just these names -/
def MapOf (w : World) (b : Nat) (n : Nat) (ns : List (List UInt8)) (D : DataW Value) : Prop :=
  w.ownsMap Tryz.prog 9 anyElem b n D ∧ ∀ x, Maps.has D (.string x) = true ↔ x ∈ ns

mutual
/-- the interface value reads as this value -/
def AnyV (w : World) (p : Nat → Prop) : V → Value → Prop
  | .mk k n f s t ks fs, x => AnyS k n f s t x ∨
      (k = 120 ∧ ∃ A c, x = .iface 32 (.slice A t.size c) ∧ t.size ≤ c ∧ Rd w p A (bcells t.data.toList)) ∨
      (k = 65 ∧ ∃ A c xs, x = .iface 295 (.slice A ks.len c) ∧ ks.len ≤ c ∧ Rd w p A xs ∧ AnyVs w p ks xs) ∨
      (k = 70 ∧ ∃ b D, x = .iface 56 (.map (some b)) ∧ p b ∧ MapOf w b fs.len fs.names D ∧ EntV w p fs D)
def AnyVs (w : World) (p : Nat → Prop) : Vs → List Value → Prop
  | .nil, xs => xs = []
  | .cons v r, xs => ∃ x xs', xs = x :: xs' ∧ AnyV w p v x ∧ AnyVs w p r xs'
def EntV (w : World) (p : Nat → Prop) : Fs → DataW Value → Prop
  | .nil, _ => True
  | .cons name v r, D => (∃ x, (∀ z, D.atKey (.string name.data.toList) z = .held x) ∧ AnyV w p v x) ∧ EntV w p r D
end

/-- a table as the package has it -/
def TabV (w : World) (p : Nat → Prop) (fs : Fs) (b : Nat) : Prop := ∃ D, p b ∧ MapOf w b fs.len fs.names D ∧ EntV w p fs D

theorem MapOf.keep {w w1 : World} {b n : Nat} {ns : List (List UInt8)} {D : DataW Value} (h : MapOf w b n ns D) (hk : w1.heap[b]? = w.heap[b]?) : MapOf w1 b n ns D := by
  obtain ⟨⟨es, clock, hb, F, hs, hD⟩, hn⟩ := h
  exact ⟨⟨es, clock, hk.trans hb, F, hs, hD⟩, hn⟩

mutual
theorem AnyV.keep {w w1 : World} {p q : Nat → Prop} (hk : ∀ g, p g → w1.heap[g]? = w.heap[g]?) (hl : ∀ g, p g → q g) : ∀ {v : V} {x : Value}, AnyV w p v x → AnyV w1 q v x
  | .mk k n f s t ks fs, x, h => by
    have h1 : ∀ xs, AnyVs w p ks xs → AnyVs w1 q ks xs := fun xs => AnyVs.keep hk hl
    have h2 : ∀ D, EntV w p fs D → EntV w1 q fs D := fun xs => EntV.keep hk hl
    rw [AnyV] at h ⊢
    rcases h with h | ⟨e, A, c, ex, hc, hr⟩ | ⟨e, A, c, xs, ex, hc, hr, hv⟩ | ⟨e, b, D, ex, hb, hm, he⟩
    · exact .inl h
    · exact .inr (.inl ⟨e, A, c, ex, hc, (hr.keep hk).more hl⟩)
    · exact .inr (.inr (.inl ⟨e, A, c, xs, ex, hc, (hr.keep hk).more hl, h1 _ hv⟩))
    · exact .inr (.inr (.inr ⟨e, b, D, ex, hl b hb, hm.keep (hk b hb), h2 _ he⟩))
theorem AnyVs.keep {w w1 : World} {p q : Nat → Prop} (hk : ∀ g, p g → w1.heap[g]? = w.heap[g]?) (hl : ∀ g, p g → q g) : ∀ {vs : Vs} {xs : List Value}, AnyVs w p vs xs → AnyVs w1 q vs xs
  | .nil, xs, h => by rw [AnyVs] at h ⊢; exact h
  | .cons v r, xs, h => by
    have h1 : ∀ x, AnyV w p v x → AnyV w1 q v x := fun x => AnyV.keep hk hl
    have h2 : ∀ xs, AnyVs w p r xs → AnyVs w1 q r xs := fun xs => AnyVs.keep hk hl
    rw [AnyVs] at h ⊢
    obtain ⟨x, xs', e, x1, x2⟩ := h
    exact ⟨x, xs', e, h1 _ x1, h2 _ x2⟩
theorem EntV.keep {w w1 : World} {p q : Nat → Prop} (hk : ∀ g, p g → w1.heap[g]? = w.heap[g]?) (hl : ∀ g, p g → q g) : ∀ {fs : Fs} {D : DataW Value}, EntV w p fs D → EntV w1 q fs D
  | .nil, D, h => by rw [EntV]; trivial
  | .cons name v r, D, h => by
    have h1 : ∀ x, AnyV w p v x → AnyV w1 q v x := fun x => AnyV.keep hk hl
    have h2 : ∀ D, EntV w p r D → EntV w1 q r D := fun xs => EntV.keep hk hl
    rw [EntV] at h ⊢
    obtain ⟨⟨x, hx, hv⟩, hr⟩ := h
    exact ⟨⟨x, hx, h1 _ hv⟩, h2 _ hr⟩
end
theorem TabV.keep {w w1 : World} {p q : Nat → Prop} (hk : ∀ g, p g → w1.heap[g]? = w.heap[g]?) (hl : ∀ g, p g → q g) {fs : Fs} {b : Nat} (h : TabV w p fs b) : TabV w1 q fs b := by
  obtain ⟨D, hb, hm, he⟩ := h
  exact ⟨D, hl b hb, hm.keep (hk b hb), he.keep hk hl⟩

theorem AnyVs.len {w : World} {p : Nat → Prop} : ∀ {vs : Vs} {xs : List Value}, AnyVs w p vs xs → xs.length = vs.len
  | .nil, xs, h => by rw [AnyVs] at h; subst h; rfl
  | .cons v r, xs, h => by
    rw [AnyVs] at h
    obtain ⟨x, xs', rfl, _, h2⟩ := h
    rw [List.length_cons, h2.len, Vs.len]
theorem AnyVs.snoc {w : World} {p : Nat → Prop} {v : V} {x : Value} (hv : AnyV w p v x) : ∀ {vs : Vs} {xs : List Value}, AnyVs w p vs xs → AnyVs w p (vs.app (.cons v .nil)) (xs ++ [x])
  | .nil, xs, h => by rw [AnyVs] at h; subst h; rw [Vs.app, AnyVs]; exact ⟨x, [], by simp, hv, by rw [AnyVs]⟩
  | .cons u r, xs, h => by
    have ih : ∀ xs, AnyVs w p r xs → AnyVs w p (r.app (.cons v .nil)) (xs ++ [x]) := fun xs => AnyVs.snoc hv
    rw [AnyVs] at h
    obtain ⟨y, xs', rfl, x1, x2⟩ := h
    rw [Vs.app, AnyVs]
    exact ⟨y, xs' ++ [x], by simp, x1, ih _ x2⟩
/-- the m-th value of an array -/
theorem AnyVs.at_ {w : World} {p : Nat → Prop} {A : Option Addr} {xs : List Value} {m : Nat} {v : V} {r : Vs} (hr : Rd w p A xs) (h : AnyVs w p (.cons v r) (xs.drop m)) :
    ∃ b off x, A = some ⟨b, off, none⟩ ∧ p b ∧ w.cell? ⟨b, off + m, none⟩ = some x ∧ AnyV w p v x ∧ AnyVs w p r (xs.drop (m + 1)) := by
  rw [AnyVs] at h
  obtain ⟨x, xs', e, h1, h2⟩ := h
  have hne : xs ≠ [] := by rintro rfl; simp at e
  obtain ⟨b, off, rfl, hp, hc⟩ := hr hne
  have hx : xs[m]? = some x := by
    have : (xs.drop m)[0]? = some x := by rw [e]; rfl
    rwa [List.getElem?_drop] at this
  refine ⟨b, off, x, rfl, hp, hc m x hx, h1, ?_⟩
  rw [← List.drop_drop, e]
  exact h2

/-- bytes that are read, out of what a value reads as -/
theorem Rd.rb {w : World} {p : Nat → Prop} {A : Option Addr} {xs : List UInt8} {B n c : Nat} (h : Rd w p A (bcells xs)) (hp : ∀ g, p g → g < B) (hn : xs.length = n) (hc : n ≤ c) : Rb w B (.slice A n c) xs := by
  subst hn
  refine ⟨A, c, rfl, hc, fun h0 => ?_⟩
  obtain ⟨b, off, rfl, hpb, hx⟩ := h (by intro e; have := congrArg List.length e; rw [bcells_length] at this; simp at this; simp [this] at h0)
  refine ⟨_, rfl, hp b hpb, fun j u hu => ?_⟩
  have hadd : (⟨b, off, none⟩ : Addr).add j = ⟨b, off + j, none⟩ := by unfold Addr.add; split <;> simp_all
  rw [hadd]
  exact hx j u hu
theorem Rb.pre {w : World} {g B c n : Nat} {t : TypeId} {cs : Array Value} {xs : List UInt8} (h : Blk w g t cs) (hg : g < B) (hn : xs.length = n) (hc : n ≤ c) (hx : cs.toList.take n = bcells xs) : Rb w B (.slice (some ⟨g, 0, none⟩) n c) xs := by
  subst hn
  refine ⟨_, c, rfl, hc, fun _ => ⟨_, rfl, hg, fun j u hu => ?_⟩⟩
  have hadd : (⟨g, 0, none⟩ : Addr).add j = ⟨g, j, none⟩ := by unfold Addr.add; split <;> simp_all
  rw [hadd, h.cell j, ← hu, ← hx]
  have hj : j < xs.length := by
    have := (List.getElem?_eq_some_iff.1 hu).1
    rwa [bcells_length] at this
  rw [List.getElem?_take_of_lt hj, Array.getElem?_toList]

end Go.Proofs.YtabeppaehenefaaGreat

namespace Go.Proofs.YtabeppaehenefaaGreat
open Go.RowKit
attribute [local go_sem ↓] Go.wp_at_zero Go.wp_at_succ

def plainT : Option TypeDesc → Bool
  | some (.interface _) => false
  | some _ => true
  | none => false

theorem ta_no (T S : TypeId) (v z : Value) (w : World) (hU : plainT (Tryz.prog.underlying T) = true) (hz : (zeroValue T).run Tryz.prog w = .ok z w) (h : S ≠ T) :
    (Instr.typeAssert (.iface S v) 20 T true).run Tryz.prog w = .ok (.tuple #[z, .bool false]) w := by
  cases hu : Tryz.prog.underlying T with
  | none => rw [hu] at hU; cases hU
  | some U =>
    rw [hu] at hU
    cases U <;> first | (cases hU; done) | simp [Instr.typeAssert, run_underlying hu, Result.andThen, hz, h]

theorem zero_4 (w : World) : (zeroValue 4).run Tryz.prog w = .ok (.bool false) w := by kernel_rfl
theorem under_4 : plainT (Tryz.prog.underlying 4) = true := by kernel_rfl
theorem no_4 (S : TypeId) (v : Value) (w : World) (h : S ≠ 4) : (Instr.typeAssert (.iface S v) 20 4 true).run Tryz.prog w = .ok (.tuple #[.bool false, .bool false]) w := ta_no 4 S v _ w under_4 (zero_4 w) h
@[go_sem] theorem nil_4 (w : World) : (Instr.typeAssert .nilIface 20 4 true).run Tryz.prog w = .ok (.tuple #[.bool false, .bool false]) w := by kernel_rfl
theorem zero_5 (w : World) : (zeroValue 5).run Tryz.prog w = .ok (.int .u8 0) w := by kernel_rfl
theorem under_5 : plainT (Tryz.prog.underlying 5) = true := by kernel_rfl
theorem no_5 (S : TypeId) (v : Value) (w : World) (h : S ≠ 5) : (Instr.typeAssert (.iface S v) 20 5 true).run Tryz.prog w = .ok (.tuple #[.int .u8 0, .bool false]) w := ta_no 5 S v _ w under_5 (zero_5 w) h
@[go_sem] theorem nil_5 (w : World) : (Instr.typeAssert .nilIface 20 5 true).run Tryz.prog w = .ok (.tuple #[.int .u8 0, .bool false]) w := by kernel_rfl
theorem zero_117 (w : World) : (zeroValue 289).run Tryz.prog w = .ok (.int .i8 0) w := by kernel_rfl
theorem under_117 : plainT (Tryz.prog.underlying 289) = true := by kernel_rfl
theorem no_117 (S : TypeId) (v : Value) (w : World) (h : S ≠ 289) : (Instr.typeAssert (.iface S v) 20 289 true).run Tryz.prog w = .ok (.tuple #[.int .i8 0, .bool false]) w := ta_no 289 S v _ w under_117 (zero_117 w) h
@[go_sem] theorem nil_117 (w : World) : (Instr.typeAssert .nilIface 20 289 true).run Tryz.prog w = .ok (.tuple #[.int .i8 0, .bool false]) w := by kernel_rfl
theorem zero_118 (w : World) : (zeroValue 290).run Tryz.prog w = .ok (.int .i16 0) w := by kernel_rfl
theorem under_118 : plainT (Tryz.prog.underlying 290) = true := by kernel_rfl
theorem no_118 (S : TypeId) (v : Value) (w : World) (h : S ≠ 290) : (Instr.typeAssert (.iface S v) 20 290 true).run Tryz.prog w = .ok (.tuple #[.int .i16 0, .bool false]) w := ta_no 290 S v _ w under_118 (zero_118 w) h
@[go_sem] theorem nil_118 (w : World) : (Instr.typeAssert .nilIface 20 290 true).run Tryz.prog w = .ok (.tuple #[.int .i16 0, .bool false]) w := by kernel_rfl
theorem zero_3 (w : World) : (zeroValue 3).run Tryz.prog w = .ok (.int .i64 0) w := by kernel_rfl
theorem under_3 : plainT (Tryz.prog.underlying 3) = true := by kernel_rfl
theorem no_3 (S : TypeId) (v : Value) (w : World) (h : S ≠ 3) : (Instr.typeAssert (.iface S v) 20 3 true).run Tryz.prog w = .ok (.tuple #[.int .i64 0, .bool false]) w := ta_no 3 S v _ w under_3 (zero_3 w) h
@[go_sem] theorem nil_3 (w : World) : (Instr.typeAssert .nilIface 20 3 true).run Tryz.prog w = .ok (.tuple #[.int .i64 0, .bool false]) w := by kernel_rfl
theorem zero_21 (w : World) : (zeroValue 21).run Tryz.prog w = .ok (.int .i32 0) w := by kernel_rfl
theorem under_21 : plainT (Tryz.prog.underlying 21) = true := by kernel_rfl
theorem no_21 (S : TypeId) (v : Value) (w : World) (h : S ≠ 21) : (Instr.typeAssert (.iface S v) 20 21 true).run Tryz.prog w = .ok (.tuple #[.int .i32 0, .bool false]) w := ta_no 21 S v _ w under_21 (zero_21 w) h
@[go_sem] theorem nil_21 (w : World) : (Instr.typeAssert .nilIface 20 21 true).run Tryz.prog w = .ok (.tuple #[.int .i32 0, .bool false]) w := by kernel_rfl
theorem zero_2 (w : World) : (zeroValue 2).run Tryz.prog w = .ok (.int .i64 0) w := by kernel_rfl
theorem under_2 : plainT (Tryz.prog.underlying 2) = true := by kernel_rfl
theorem no_2 (S : TypeId) (v : Value) (w : World) (h : S ≠ 2) : (Instr.typeAssert (.iface S v) 20 2 true).run Tryz.prog w = .ok (.tuple #[.int .i64 0, .bool false]) w := ta_no 2 S v _ w under_2 (zero_2 w) h
@[go_sem] theorem nil_2 (w : World) : (Instr.typeAssert .nilIface 20 2 true).run Tryz.prog w = .ok (.tuple #[.int .i64 0, .bool false]) w := by kernel_rfl
theorem zero_68 (w : World) : (zeroValue 51).run Tryz.prog w = .ok (.int .u16 0) w := by kernel_rfl
theorem under_68 : plainT (Tryz.prog.underlying 51) = true := by kernel_rfl
theorem no_68 (S : TypeId) (v : Value) (w : World) (h : S ≠ 51) : (Instr.typeAssert (.iface S v) 20 51 true).run Tryz.prog w = .ok (.tuple #[.int .u16 0, .bool false]) w := ta_no 51 S v _ w under_68 (zero_68 w) h
@[go_sem] theorem nil_68 (w : World) : (Instr.typeAssert .nilIface 20 51 true).run Tryz.prog w = .ok (.tuple #[.int .u16 0, .bool false]) w := by kernel_rfl
theorem zero_119 (w : World) : (zeroValue 114).run Tryz.prog w = .ok (.int .u32 0) w := by kernel_rfl
theorem under_119 : plainT (Tryz.prog.underlying 114) = true := by kernel_rfl
theorem no_119 (S : TypeId) (v : Value) (w : World) (h : S ≠ 114) : (Instr.typeAssert (.iface S v) 20 114 true).run Tryz.prog w = .ok (.tuple #[.int .u32 0, .bool false]) w := ta_no 114 S v _ w under_119 (zero_119 w) h
@[go_sem] theorem nil_119 (w : World) : (Instr.typeAssert .nilIface 20 114 true).run Tryz.prog w = .ok (.tuple #[.int .u32 0, .bool false]) w := by kernel_rfl
theorem zero_120 (w : World) : (zeroValue 291).run Tryz.prog w = .ok (.float .f32 0) w := by kernel_rfl
theorem under_120 : plainT (Tryz.prog.underlying 291) = true := by kernel_rfl
theorem no_120 (S : TypeId) (v : Value) (w : World) (h : S ≠ 291) : (Instr.typeAssert (.iface S v) 20 291 true).run Tryz.prog w = .ok (.tuple #[.float .f32 0, .bool false]) w := ta_no 291 S v _ w under_120 (zero_120 w) h
@[go_sem] theorem nil_120 (w : World) : (Instr.typeAssert .nilIface 20 291 true).run Tryz.prog w = .ok (.tuple #[.float .f32 0, .bool false]) w := by kernel_rfl
theorem zero_77 (w : World) : (zeroValue 89).run Tryz.prog w = .ok (.float .f64 0) w := by kernel_rfl
theorem under_77 : plainT (Tryz.prog.underlying 89) = true := by kernel_rfl
theorem no_77 (S : TypeId) (v : Value) (w : World) (h : S ≠ 89) : (Instr.typeAssert (.iface S v) 20 89 true).run Tryz.prog w = .ok (.tuple #[.float .f64 0, .bool false]) w := ta_no 89 S v _ w under_77 (zero_77 w) h
@[go_sem] theorem nil_77 (w : World) : (Instr.typeAssert .nilIface 20 89 true).run Tryz.prog w = .ok (.tuple #[.float .f64 0, .bool false]) w := by kernel_rfl
theorem zero_122 (w : World) : (zeroValue 293).run Tryz.prog w = .ok (.agg #[.int .u8 0, .int .i32 0]) w := by kernel_rfl
theorem under_122 : plainT (Tryz.prog.underlying 293) = true := by kernel_rfl
theorem no_122 (S : TypeId) (v : Value) (w : World) (h : S ≠ 293) : (Instr.typeAssert (.iface S v) 20 293 true).run Tryz.prog w = .ok (.tuple #[.agg #[.int .u8 0, .int .i32 0], .bool false]) w := ta_no 293 S v _ w under_122 (zero_122 w) h
@[go_sem] theorem nil_122 (w : World) : (Instr.typeAssert .nilIface 20 293 true).run Tryz.prog w = .ok (.tuple #[.agg #[.int .u8 0, .int .i32 0], .bool false]) w := by kernel_rfl
theorem zero_9 (w : World) : (zeroValue 9).run Tryz.prog w = .ok (.string ⟨#[]⟩) w := by kernel_rfl
theorem under_9 : plainT (Tryz.prog.underlying 9) = true := by kernel_rfl
theorem no_9 (S : TypeId) (v : Value) (w : World) (h : S ≠ 9) : (Instr.typeAssert (.iface S v) 20 9 true).run Tryz.prog w = .ok (.tuple #[.string ⟨#[]⟩, .bool false]) w := ta_no 9 S v _ w under_9 (zero_9 w) h
@[go_sem] theorem nil_9 (w : World) : (Instr.typeAssert .nilIface 20 9 true).run Tryz.prog w = .ok (.tuple #[.string ⟨#[]⟩, .bool false]) w := by kernel_rfl
theorem zero_127 (w : World) : (zeroValue 295).run Tryz.prog w = .ok (.slice none 0 0) w := by kernel_rfl
theorem under_127 : plainT (Tryz.prog.underlying 295) = true := by kernel_rfl
theorem no_127 (S : TypeId) (v : Value) (w : World) (h : S ≠ 295) : (Instr.typeAssert (.iface S v) 20 295 true).run Tryz.prog w = .ok (.tuple #[.slice none 0 0, .bool false]) w := ta_no 295 S v _ w under_127 (zero_127 w) h
@[go_sem] theorem nil_127 (w : World) : (Instr.typeAssert .nilIface 20 295 true).run Tryz.prog w = .ok (.tuple #[.slice none 0 0, .bool false]) w := by kernel_rfl
theorem zero_125 (w : World) : (zeroValue 219).run Tryz.prog w = .ok (.agg #[.int .u64 0, .int .i64 0, .pointer none]) w := by kernel_rfl
theorem under_125 : plainT (Tryz.prog.underlying 219) = true := by kernel_rfl
theorem no_125 (S : TypeId) (v : Value) (w : World) (h : S ≠ 219) : (Instr.typeAssert (.iface S v) 20 219 true).run Tryz.prog w = .ok (.tuple #[.agg #[.int .u64 0, .int .i64 0, .pointer none], .bool false]) w := ta_no 219 S v _ w under_125 (zero_125 w) h
@[go_sem] theorem nil_125 (w : World) : (Instr.typeAssert .nilIface 20 219 true).run Tryz.prog w = .ok (.tuple #[.agg #[.int .u64 0, .int .i64 0, .pointer none], .bool false]) w := by kernel_rfl
theorem zero_53 (w : World) : (zeroValue 56).run Tryz.prog w = .ok (.map none) w := by kernel_rfl
theorem under_53 : plainT (Tryz.prog.underlying 56) = true := by kernel_rfl
theorem no_53 (S : TypeId) (v : Value) (w : World) (h : S ≠ 56) : (Instr.typeAssert (.iface S v) 20 56 true).run Tryz.prog w = .ok (.tuple #[.map none, .bool false]) w := ta_no 56 S v _ w under_53 (zero_53 w) h
@[go_sem] theorem nil_53 (w : World) : (Instr.typeAssert .nilIface 20 56 true).run Tryz.prog w = .ok (.tuple #[.map none, .bool false]) w := by kernel_rfl
theorem zero_27 (w : World) : (zeroValue 32).run Tryz.prog w = .ok (.slice none 0 0) w := by kernel_rfl
theorem under_27 : plainT (Tryz.prog.underlying 32) = true := by kernel_rfl
theorem no_27 (S : TypeId) (v : Value) (w : World) (h : S ≠ 32) : (Instr.typeAssert (.iface S v) 20 32 true).run Tryz.prog w = .ok (.tuple #[.slice none 0 0, .bool false]) w := ta_no 32 S v _ w under_27 (zero_27 w) h
@[go_sem] theorem nil_27 (w : World) : (Instr.typeAssert .nilIface 20 32 true).run Tryz.prog w = .ok (.tuple #[.slice none 0 0, .bool false]) w := by kernel_rfl
@[go_sem] theorem yes_4 (v : Value) (w : World) : (Instr.typeAssert (.iface 4 v) 20 4 true).run Tryz.prog w = .ok (.tuple #[v, .bool true]) w := by kernel_rfl
@[go_sem] theorem no_5_4 (v : Value) (w : World) : (Instr.typeAssert (.iface 5 v) 20 4 true).run Tryz.prog w = .ok (.tuple #[.bool false, .bool false]) w := no_4 5 v w (by decide)
@[go_sem] theorem yes_5 (v : Value) (w : World) : (Instr.typeAssert (.iface 5 v) 20 5 true).run Tryz.prog w = .ok (.tuple #[v, .bool true]) w := by kernel_rfl
@[go_sem] theorem no_117_4 (v : Value) (w : World) : (Instr.typeAssert (.iface 289 v) 20 4 true).run Tryz.prog w = .ok (.tuple #[.bool false, .bool false]) w := no_4 289 v w (by decide)
@[go_sem] theorem no_117_5 (v : Value) (w : World) : (Instr.typeAssert (.iface 289 v) 20 5 true).run Tryz.prog w = .ok (.tuple #[.int .u8 0, .bool false]) w := no_5 289 v w (by decide)
@[go_sem] theorem yes_117 (v : Value) (w : World) : (Instr.typeAssert (.iface 289 v) 20 289 true).run Tryz.prog w = .ok (.tuple #[v, .bool true]) w := by kernel_rfl
@[go_sem] theorem no_118_4 (v : Value) (w : World) : (Instr.typeAssert (.iface 290 v) 20 4 true).run Tryz.prog w = .ok (.tuple #[.bool false, .bool false]) w := no_4 290 v w (by decide)
@[go_sem] theorem no_118_5 (v : Value) (w : World) : (Instr.typeAssert (.iface 290 v) 20 5 true).run Tryz.prog w = .ok (.tuple #[.int .u8 0, .bool false]) w := no_5 290 v w (by decide)
@[go_sem] theorem no_118_117 (v : Value) (w : World) : (Instr.typeAssert (.iface 290 v) 20 289 true).run Tryz.prog w = .ok (.tuple #[.int .i8 0, .bool false]) w := no_117 290 v w (by decide)
@[go_sem] theorem yes_118 (v : Value) (w : World) : (Instr.typeAssert (.iface 290 v) 20 290 true).run Tryz.prog w = .ok (.tuple #[v, .bool true]) w := by kernel_rfl
@[go_sem] theorem no_21_4 (v : Value) (w : World) : (Instr.typeAssert (.iface 21 v) 20 4 true).run Tryz.prog w = .ok (.tuple #[.bool false, .bool false]) w := no_4 21 v w (by decide)
@[go_sem] theorem no_21_5 (v : Value) (w : World) : (Instr.typeAssert (.iface 21 v) 20 5 true).run Tryz.prog w = .ok (.tuple #[.int .u8 0, .bool false]) w := no_5 21 v w (by decide)
@[go_sem] theorem no_21_117 (v : Value) (w : World) : (Instr.typeAssert (.iface 21 v) 20 289 true).run Tryz.prog w = .ok (.tuple #[.int .i8 0, .bool false]) w := no_117 21 v w (by decide)
@[go_sem] theorem no_21_118 (v : Value) (w : World) : (Instr.typeAssert (.iface 21 v) 20 290 true).run Tryz.prog w = .ok (.tuple #[.int .i16 0, .bool false]) w := no_118 21 v w (by decide)
@[go_sem] theorem no_21_3 (v : Value) (w : World) : (Instr.typeAssert (.iface 21 v) 20 3 true).run Tryz.prog w = .ok (.tuple #[.int .i64 0, .bool false]) w := no_3 21 v w (by decide)
@[go_sem] theorem yes_21 (v : Value) (w : World) : (Instr.typeAssert (.iface 21 v) 20 21 true).run Tryz.prog w = .ok (.tuple #[v, .bool true]) w := by kernel_rfl
@[go_sem] theorem no_2_4 (v : Value) (w : World) : (Instr.typeAssert (.iface 2 v) 20 4 true).run Tryz.prog w = .ok (.tuple #[.bool false, .bool false]) w := no_4 2 v w (by decide)
@[go_sem] theorem no_2_5 (v : Value) (w : World) : (Instr.typeAssert (.iface 2 v) 20 5 true).run Tryz.prog w = .ok (.tuple #[.int .u8 0, .bool false]) w := no_5 2 v w (by decide)
@[go_sem] theorem no_2_117 (v : Value) (w : World) : (Instr.typeAssert (.iface 2 v) 20 289 true).run Tryz.prog w = .ok (.tuple #[.int .i8 0, .bool false]) w := no_117 2 v w (by decide)
@[go_sem] theorem no_2_118 (v : Value) (w : World) : (Instr.typeAssert (.iface 2 v) 20 290 true).run Tryz.prog w = .ok (.tuple #[.int .i16 0, .bool false]) w := no_118 2 v w (by decide)
@[go_sem] theorem no_2_3 (v : Value) (w : World) : (Instr.typeAssert (.iface 2 v) 20 3 true).run Tryz.prog w = .ok (.tuple #[.int .i64 0, .bool false]) w := no_3 2 v w (by decide)
@[go_sem] theorem no_2_21 (v : Value) (w : World) : (Instr.typeAssert (.iface 2 v) 20 21 true).run Tryz.prog w = .ok (.tuple #[.int .i32 0, .bool false]) w := no_21 2 v w (by decide)
@[go_sem] theorem yes_2 (v : Value) (w : World) : (Instr.typeAssert (.iface 2 v) 20 2 true).run Tryz.prog w = .ok (.tuple #[v, .bool true]) w := by kernel_rfl
@[go_sem] theorem no_120_4 (v : Value) (w : World) : (Instr.typeAssert (.iface 291 v) 20 4 true).run Tryz.prog w = .ok (.tuple #[.bool false, .bool false]) w := no_4 291 v w (by decide)
@[go_sem] theorem no_120_5 (v : Value) (w : World) : (Instr.typeAssert (.iface 291 v) 20 5 true).run Tryz.prog w = .ok (.tuple #[.int .u8 0, .bool false]) w := no_5 291 v w (by decide)
@[go_sem] theorem no_120_117 (v : Value) (w : World) : (Instr.typeAssert (.iface 291 v) 20 289 true).run Tryz.prog w = .ok (.tuple #[.int .i8 0, .bool false]) w := no_117 291 v w (by decide)
@[go_sem] theorem no_120_118 (v : Value) (w : World) : (Instr.typeAssert (.iface 291 v) 20 290 true).run Tryz.prog w = .ok (.tuple #[.int .i16 0, .bool false]) w := no_118 291 v w (by decide)
@[go_sem] theorem no_120_3 (v : Value) (w : World) : (Instr.typeAssert (.iface 291 v) 20 3 true).run Tryz.prog w = .ok (.tuple #[.int .i64 0, .bool false]) w := no_3 291 v w (by decide)
@[go_sem] theorem no_120_21 (v : Value) (w : World) : (Instr.typeAssert (.iface 291 v) 20 21 true).run Tryz.prog w = .ok (.tuple #[.int .i32 0, .bool false]) w := no_21 291 v w (by decide)
@[go_sem] theorem no_120_2 (v : Value) (w : World) : (Instr.typeAssert (.iface 291 v) 20 2 true).run Tryz.prog w = .ok (.tuple #[.int .i64 0, .bool false]) w := no_2 291 v w (by decide)
@[go_sem] theorem no_120_68 (v : Value) (w : World) : (Instr.typeAssert (.iface 291 v) 20 51 true).run Tryz.prog w = .ok (.tuple #[.int .u16 0, .bool false]) w := no_68 291 v w (by decide)
@[go_sem] theorem no_120_119 (v : Value) (w : World) : (Instr.typeAssert (.iface 291 v) 20 114 true).run Tryz.prog w = .ok (.tuple #[.int .u32 0, .bool false]) w := no_119 291 v w (by decide)
@[go_sem] theorem yes_120 (v : Value) (w : World) : (Instr.typeAssert (.iface 291 v) 20 291 true).run Tryz.prog w = .ok (.tuple #[v, .bool true]) w := by kernel_rfl
@[go_sem] theorem no_77_4 (v : Value) (w : World) : (Instr.typeAssert (.iface 89 v) 20 4 true).run Tryz.prog w = .ok (.tuple #[.bool false, .bool false]) w := no_4 89 v w (by decide)
@[go_sem] theorem no_77_5 (v : Value) (w : World) : (Instr.typeAssert (.iface 89 v) 20 5 true).run Tryz.prog w = .ok (.tuple #[.int .u8 0, .bool false]) w := no_5 89 v w (by decide)
@[go_sem] theorem no_77_117 (v : Value) (w : World) : (Instr.typeAssert (.iface 89 v) 20 289 true).run Tryz.prog w = .ok (.tuple #[.int .i8 0, .bool false]) w := no_117 89 v w (by decide)
@[go_sem] theorem no_77_118 (v : Value) (w : World) : (Instr.typeAssert (.iface 89 v) 20 290 true).run Tryz.prog w = .ok (.tuple #[.int .i16 0, .bool false]) w := no_118 89 v w (by decide)
@[go_sem] theorem no_77_3 (v : Value) (w : World) : (Instr.typeAssert (.iface 89 v) 20 3 true).run Tryz.prog w = .ok (.tuple #[.int .i64 0, .bool false]) w := no_3 89 v w (by decide)
@[go_sem] theorem no_77_21 (v : Value) (w : World) : (Instr.typeAssert (.iface 89 v) 20 21 true).run Tryz.prog w = .ok (.tuple #[.int .i32 0, .bool false]) w := no_21 89 v w (by decide)
@[go_sem] theorem no_77_2 (v : Value) (w : World) : (Instr.typeAssert (.iface 89 v) 20 2 true).run Tryz.prog w = .ok (.tuple #[.int .i64 0, .bool false]) w := no_2 89 v w (by decide)
@[go_sem] theorem no_77_68 (v : Value) (w : World) : (Instr.typeAssert (.iface 89 v) 20 51 true).run Tryz.prog w = .ok (.tuple #[.int .u16 0, .bool false]) w := no_68 89 v w (by decide)
@[go_sem] theorem no_77_119 (v : Value) (w : World) : (Instr.typeAssert (.iface 89 v) 20 114 true).run Tryz.prog w = .ok (.tuple #[.int .u32 0, .bool false]) w := no_119 89 v w (by decide)
@[go_sem] theorem no_77_120 (v : Value) (w : World) : (Instr.typeAssert (.iface 89 v) 20 291 true).run Tryz.prog w = .ok (.tuple #[.float .f32 0, .bool false]) w := no_120 89 v w (by decide)
@[go_sem] theorem yes_77 (v : Value) (w : World) : (Instr.typeAssert (.iface 89 v) 20 89 true).run Tryz.prog w = .ok (.tuple #[v, .bool true]) w := by kernel_rfl
@[go_sem] theorem no_122_4 (v : Value) (w : World) : (Instr.typeAssert (.iface 293 v) 20 4 true).run Tryz.prog w = .ok (.tuple #[.bool false, .bool false]) w := no_4 293 v w (by decide)
@[go_sem] theorem no_122_5 (v : Value) (w : World) : (Instr.typeAssert (.iface 293 v) 20 5 true).run Tryz.prog w = .ok (.tuple #[.int .u8 0, .bool false]) w := no_5 293 v w (by decide)
@[go_sem] theorem no_122_117 (v : Value) (w : World) : (Instr.typeAssert (.iface 293 v) 20 289 true).run Tryz.prog w = .ok (.tuple #[.int .i8 0, .bool false]) w := no_117 293 v w (by decide)
@[go_sem] theorem no_122_118 (v : Value) (w : World) : (Instr.typeAssert (.iface 293 v) 20 290 true).run Tryz.prog w = .ok (.tuple #[.int .i16 0, .bool false]) w := no_118 293 v w (by decide)
@[go_sem] theorem no_122_3 (v : Value) (w : World) : (Instr.typeAssert (.iface 293 v) 20 3 true).run Tryz.prog w = .ok (.tuple #[.int .i64 0, .bool false]) w := no_3 293 v w (by decide)
@[go_sem] theorem no_122_21 (v : Value) (w : World) : (Instr.typeAssert (.iface 293 v) 20 21 true).run Tryz.prog w = .ok (.tuple #[.int .i32 0, .bool false]) w := no_21 293 v w (by decide)
@[go_sem] theorem no_122_2 (v : Value) (w : World) : (Instr.typeAssert (.iface 293 v) 20 2 true).run Tryz.prog w = .ok (.tuple #[.int .i64 0, .bool false]) w := no_2 293 v w (by decide)
@[go_sem] theorem no_122_68 (v : Value) (w : World) : (Instr.typeAssert (.iface 293 v) 20 51 true).run Tryz.prog w = .ok (.tuple #[.int .u16 0, .bool false]) w := no_68 293 v w (by decide)
@[go_sem] theorem no_122_119 (v : Value) (w : World) : (Instr.typeAssert (.iface 293 v) 20 114 true).run Tryz.prog w = .ok (.tuple #[.int .u32 0, .bool false]) w := no_119 293 v w (by decide)
@[go_sem] theorem no_122_120 (v : Value) (w : World) : (Instr.typeAssert (.iface 293 v) 20 291 true).run Tryz.prog w = .ok (.tuple #[.float .f32 0, .bool false]) w := no_120 293 v w (by decide)
@[go_sem] theorem no_122_77 (v : Value) (w : World) : (Instr.typeAssert (.iface 293 v) 20 89 true).run Tryz.prog w = .ok (.tuple #[.float .f64 0, .bool false]) w := no_77 293 v w (by decide)
@[go_sem] theorem yes_122 (v : Value) (w : World) : (Instr.typeAssert (.iface 293 v) 20 293 true).run Tryz.prog w = .ok (.tuple #[v, .bool true]) w := by kernel_rfl
@[go_sem] theorem no_9_4 (v : Value) (w : World) : (Instr.typeAssert (.iface 9 v) 20 4 true).run Tryz.prog w = .ok (.tuple #[.bool false, .bool false]) w := no_4 9 v w (by decide)
@[go_sem] theorem no_9_5 (v : Value) (w : World) : (Instr.typeAssert (.iface 9 v) 20 5 true).run Tryz.prog w = .ok (.tuple #[.int .u8 0, .bool false]) w := no_5 9 v w (by decide)
@[go_sem] theorem no_9_117 (v : Value) (w : World) : (Instr.typeAssert (.iface 9 v) 20 289 true).run Tryz.prog w = .ok (.tuple #[.int .i8 0, .bool false]) w := no_117 9 v w (by decide)
@[go_sem] theorem no_9_118 (v : Value) (w : World) : (Instr.typeAssert (.iface 9 v) 20 290 true).run Tryz.prog w = .ok (.tuple #[.int .i16 0, .bool false]) w := no_118 9 v w (by decide)
@[go_sem] theorem no_9_3 (v : Value) (w : World) : (Instr.typeAssert (.iface 9 v) 20 3 true).run Tryz.prog w = .ok (.tuple #[.int .i64 0, .bool false]) w := no_3 9 v w (by decide)
@[go_sem] theorem no_9_21 (v : Value) (w : World) : (Instr.typeAssert (.iface 9 v) 20 21 true).run Tryz.prog w = .ok (.tuple #[.int .i32 0, .bool false]) w := no_21 9 v w (by decide)
@[go_sem] theorem no_9_2 (v : Value) (w : World) : (Instr.typeAssert (.iface 9 v) 20 2 true).run Tryz.prog w = .ok (.tuple #[.int .i64 0, .bool false]) w := no_2 9 v w (by decide)
@[go_sem] theorem no_9_68 (v : Value) (w : World) : (Instr.typeAssert (.iface 9 v) 20 51 true).run Tryz.prog w = .ok (.tuple #[.int .u16 0, .bool false]) w := no_68 9 v w (by decide)
@[go_sem] theorem no_9_119 (v : Value) (w : World) : (Instr.typeAssert (.iface 9 v) 20 114 true).run Tryz.prog w = .ok (.tuple #[.int .u32 0, .bool false]) w := no_119 9 v w (by decide)
@[go_sem] theorem no_9_120 (v : Value) (w : World) : (Instr.typeAssert (.iface 9 v) 20 291 true).run Tryz.prog w = .ok (.tuple #[.float .f32 0, .bool false]) w := no_120 9 v w (by decide)
@[go_sem] theorem no_9_77 (v : Value) (w : World) : (Instr.typeAssert (.iface 9 v) 20 89 true).run Tryz.prog w = .ok (.tuple #[.float .f64 0, .bool false]) w := no_77 9 v w (by decide)
@[go_sem] theorem no_9_122 (v : Value) (w : World) : (Instr.typeAssert (.iface 9 v) 20 293 true).run Tryz.prog w = .ok (.tuple #[.agg #[.int .u8 0, .int .i32 0], .bool false]) w := no_122 9 v w (by decide)
@[go_sem] theorem yes_9 (v : Value) (w : World) : (Instr.typeAssert (.iface 9 v) 20 9 true).run Tryz.prog w = .ok (.tuple #[v, .bool true]) w := by kernel_rfl
@[go_sem] theorem no_127_4 (v : Value) (w : World) : (Instr.typeAssert (.iface 295 v) 20 4 true).run Tryz.prog w = .ok (.tuple #[.bool false, .bool false]) w := no_4 295 v w (by decide)
@[go_sem] theorem no_127_5 (v : Value) (w : World) : (Instr.typeAssert (.iface 295 v) 20 5 true).run Tryz.prog w = .ok (.tuple #[.int .u8 0, .bool false]) w := no_5 295 v w (by decide)
@[go_sem] theorem no_127_117 (v : Value) (w : World) : (Instr.typeAssert (.iface 295 v) 20 289 true).run Tryz.prog w = .ok (.tuple #[.int .i8 0, .bool false]) w := no_117 295 v w (by decide)
@[go_sem] theorem no_127_118 (v : Value) (w : World) : (Instr.typeAssert (.iface 295 v) 20 290 true).run Tryz.prog w = .ok (.tuple #[.int .i16 0, .bool false]) w := no_118 295 v w (by decide)
@[go_sem] theorem no_127_3 (v : Value) (w : World) : (Instr.typeAssert (.iface 295 v) 20 3 true).run Tryz.prog w = .ok (.tuple #[.int .i64 0, .bool false]) w := no_3 295 v w (by decide)
@[go_sem] theorem no_127_21 (v : Value) (w : World) : (Instr.typeAssert (.iface 295 v) 20 21 true).run Tryz.prog w = .ok (.tuple #[.int .i32 0, .bool false]) w := no_21 295 v w (by decide)
@[go_sem] theorem no_127_2 (v : Value) (w : World) : (Instr.typeAssert (.iface 295 v) 20 2 true).run Tryz.prog w = .ok (.tuple #[.int .i64 0, .bool false]) w := no_2 295 v w (by decide)
@[go_sem] theorem no_127_68 (v : Value) (w : World) : (Instr.typeAssert (.iface 295 v) 20 51 true).run Tryz.prog w = .ok (.tuple #[.int .u16 0, .bool false]) w := no_68 295 v w (by decide)
@[go_sem] theorem no_127_119 (v : Value) (w : World) : (Instr.typeAssert (.iface 295 v) 20 114 true).run Tryz.prog w = .ok (.tuple #[.int .u32 0, .bool false]) w := no_119 295 v w (by decide)
@[go_sem] theorem no_127_120 (v : Value) (w : World) : (Instr.typeAssert (.iface 295 v) 20 291 true).run Tryz.prog w = .ok (.tuple #[.float .f32 0, .bool false]) w := no_120 295 v w (by decide)
@[go_sem] theorem no_127_77 (v : Value) (w : World) : (Instr.typeAssert (.iface 295 v) 20 89 true).run Tryz.prog w = .ok (.tuple #[.float .f64 0, .bool false]) w := no_77 295 v w (by decide)
@[go_sem] theorem no_127_122 (v : Value) (w : World) : (Instr.typeAssert (.iface 295 v) 20 293 true).run Tryz.prog w = .ok (.tuple #[.agg #[.int .u8 0, .int .i32 0], .bool false]) w := no_122 295 v w (by decide)
@[go_sem] theorem no_127_9 (v : Value) (w : World) : (Instr.typeAssert (.iface 295 v) 20 9 true).run Tryz.prog w = .ok (.tuple #[.string ⟨#[]⟩, .bool false]) w := no_9 295 v w (by decide)
@[go_sem] theorem yes_127 (v : Value) (w : World) : (Instr.typeAssert (.iface 295 v) 20 295 true).run Tryz.prog w = .ok (.tuple #[v, .bool true]) w := by kernel_rfl
@[go_sem] theorem no_125_4 (v : Value) (w : World) : (Instr.typeAssert (.iface 219 v) 20 4 true).run Tryz.prog w = .ok (.tuple #[.bool false, .bool false]) w := no_4 219 v w (by decide)
@[go_sem] theorem no_125_5 (v : Value) (w : World) : (Instr.typeAssert (.iface 219 v) 20 5 true).run Tryz.prog w = .ok (.tuple #[.int .u8 0, .bool false]) w := no_5 219 v w (by decide)
@[go_sem] theorem no_125_117 (v : Value) (w : World) : (Instr.typeAssert (.iface 219 v) 20 289 true).run Tryz.prog w = .ok (.tuple #[.int .i8 0, .bool false]) w := no_117 219 v w (by decide)
@[go_sem] theorem no_125_118 (v : Value) (w : World) : (Instr.typeAssert (.iface 219 v) 20 290 true).run Tryz.prog w = .ok (.tuple #[.int .i16 0, .bool false]) w := no_118 219 v w (by decide)
@[go_sem] theorem no_125_3 (v : Value) (w : World) : (Instr.typeAssert (.iface 219 v) 20 3 true).run Tryz.prog w = .ok (.tuple #[.int .i64 0, .bool false]) w := no_3 219 v w (by decide)
@[go_sem] theorem no_125_21 (v : Value) (w : World) : (Instr.typeAssert (.iface 219 v) 20 21 true).run Tryz.prog w = .ok (.tuple #[.int .i32 0, .bool false]) w := no_21 219 v w (by decide)
@[go_sem] theorem no_125_2 (v : Value) (w : World) : (Instr.typeAssert (.iface 219 v) 20 2 true).run Tryz.prog w = .ok (.tuple #[.int .i64 0, .bool false]) w := no_2 219 v w (by decide)
@[go_sem] theorem no_125_68 (v : Value) (w : World) : (Instr.typeAssert (.iface 219 v) 20 51 true).run Tryz.prog w = .ok (.tuple #[.int .u16 0, .bool false]) w := no_68 219 v w (by decide)
@[go_sem] theorem no_125_119 (v : Value) (w : World) : (Instr.typeAssert (.iface 219 v) 20 114 true).run Tryz.prog w = .ok (.tuple #[.int .u32 0, .bool false]) w := no_119 219 v w (by decide)
@[go_sem] theorem no_125_120 (v : Value) (w : World) : (Instr.typeAssert (.iface 219 v) 20 291 true).run Tryz.prog w = .ok (.tuple #[.float .f32 0, .bool false]) w := no_120 219 v w (by decide)
@[go_sem] theorem no_125_77 (v : Value) (w : World) : (Instr.typeAssert (.iface 219 v) 20 89 true).run Tryz.prog w = .ok (.tuple #[.float .f64 0, .bool false]) w := no_77 219 v w (by decide)
@[go_sem] theorem no_125_122 (v : Value) (w : World) : (Instr.typeAssert (.iface 219 v) 20 293 true).run Tryz.prog w = .ok (.tuple #[.agg #[.int .u8 0, .int .i32 0], .bool false]) w := no_122 219 v w (by decide)
@[go_sem] theorem no_125_9 (v : Value) (w : World) : (Instr.typeAssert (.iface 219 v) 20 9 true).run Tryz.prog w = .ok (.tuple #[.string ⟨#[]⟩, .bool false]) w := no_9 219 v w (by decide)
@[go_sem] theorem no_125_127 (v : Value) (w : World) : (Instr.typeAssert (.iface 219 v) 20 295 true).run Tryz.prog w = .ok (.tuple #[.slice none 0 0, .bool false]) w := no_127 219 v w (by decide)
@[go_sem] theorem yes_125 (v : Value) (w : World) : (Instr.typeAssert (.iface 219 v) 20 219 true).run Tryz.prog w = .ok (.tuple #[v, .bool true]) w := by kernel_rfl
@[go_sem] theorem no_53_4 (v : Value) (w : World) : (Instr.typeAssert (.iface 56 v) 20 4 true).run Tryz.prog w = .ok (.tuple #[.bool false, .bool false]) w := no_4 56 v w (by decide)
@[go_sem] theorem no_53_5 (v : Value) (w : World) : (Instr.typeAssert (.iface 56 v) 20 5 true).run Tryz.prog w = .ok (.tuple #[.int .u8 0, .bool false]) w := no_5 56 v w (by decide)
@[go_sem] theorem no_53_117 (v : Value) (w : World) : (Instr.typeAssert (.iface 56 v) 20 289 true).run Tryz.prog w = .ok (.tuple #[.int .i8 0, .bool false]) w := no_117 56 v w (by decide)
@[go_sem] theorem no_53_118 (v : Value) (w : World) : (Instr.typeAssert (.iface 56 v) 20 290 true).run Tryz.prog w = .ok (.tuple #[.int .i16 0, .bool false]) w := no_118 56 v w (by decide)
@[go_sem] theorem no_53_3 (v : Value) (w : World) : (Instr.typeAssert (.iface 56 v) 20 3 true).run Tryz.prog w = .ok (.tuple #[.int .i64 0, .bool false]) w := no_3 56 v w (by decide)
@[go_sem] theorem no_53_21 (v : Value) (w : World) : (Instr.typeAssert (.iface 56 v) 20 21 true).run Tryz.prog w = .ok (.tuple #[.int .i32 0, .bool false]) w := no_21 56 v w (by decide)
@[go_sem] theorem no_53_2 (v : Value) (w : World) : (Instr.typeAssert (.iface 56 v) 20 2 true).run Tryz.prog w = .ok (.tuple #[.int .i64 0, .bool false]) w := no_2 56 v w (by decide)
@[go_sem] theorem no_53_68 (v : Value) (w : World) : (Instr.typeAssert (.iface 56 v) 20 51 true).run Tryz.prog w = .ok (.tuple #[.int .u16 0, .bool false]) w := no_68 56 v w (by decide)
@[go_sem] theorem no_53_119 (v : Value) (w : World) : (Instr.typeAssert (.iface 56 v) 20 114 true).run Tryz.prog w = .ok (.tuple #[.int .u32 0, .bool false]) w := no_119 56 v w (by decide)
@[go_sem] theorem no_53_120 (v : Value) (w : World) : (Instr.typeAssert (.iface 56 v) 20 291 true).run Tryz.prog w = .ok (.tuple #[.float .f32 0, .bool false]) w := no_120 56 v w (by decide)
@[go_sem] theorem no_53_77 (v : Value) (w : World) : (Instr.typeAssert (.iface 56 v) 20 89 true).run Tryz.prog w = .ok (.tuple #[.float .f64 0, .bool false]) w := no_77 56 v w (by decide)
@[go_sem] theorem no_53_122 (v : Value) (w : World) : (Instr.typeAssert (.iface 56 v) 20 293 true).run Tryz.prog w = .ok (.tuple #[.agg #[.int .u8 0, .int .i32 0], .bool false]) w := no_122 56 v w (by decide)
@[go_sem] theorem no_53_9 (v : Value) (w : World) : (Instr.typeAssert (.iface 56 v) 20 9 true).run Tryz.prog w = .ok (.tuple #[.string ⟨#[]⟩, .bool false]) w := no_9 56 v w (by decide)
@[go_sem] theorem no_53_127 (v : Value) (w : World) : (Instr.typeAssert (.iface 56 v) 20 295 true).run Tryz.prog w = .ok (.tuple #[.slice none 0 0, .bool false]) w := no_127 56 v w (by decide)
@[go_sem] theorem no_53_125 (v : Value) (w : World) : (Instr.typeAssert (.iface 56 v) 20 219 true).run Tryz.prog w = .ok (.tuple #[.agg #[.int .u64 0, .int .i64 0, .pointer none], .bool false]) w := no_125 56 v w (by decide)
@[go_sem] theorem yes_53 (v : Value) (w : World) : (Instr.typeAssert (.iface 56 v) 20 56 true).run Tryz.prog w = .ok (.tuple #[v, .bool true]) w := by kernel_rfl
@[go_sem] theorem no_27_4 (v : Value) (w : World) : (Instr.typeAssert (.iface 32 v) 20 4 true).run Tryz.prog w = .ok (.tuple #[.bool false, .bool false]) w := no_4 32 v w (by decide)
@[go_sem] theorem no_27_5 (v : Value) (w : World) : (Instr.typeAssert (.iface 32 v) 20 5 true).run Tryz.prog w = .ok (.tuple #[.int .u8 0, .bool false]) w := no_5 32 v w (by decide)
@[go_sem] theorem no_27_117 (v : Value) (w : World) : (Instr.typeAssert (.iface 32 v) 20 289 true).run Tryz.prog w = .ok (.tuple #[.int .i8 0, .bool false]) w := no_117 32 v w (by decide)
@[go_sem] theorem no_27_118 (v : Value) (w : World) : (Instr.typeAssert (.iface 32 v) 20 290 true).run Tryz.prog w = .ok (.tuple #[.int .i16 0, .bool false]) w := no_118 32 v w (by decide)
@[go_sem] theorem no_27_3 (v : Value) (w : World) : (Instr.typeAssert (.iface 32 v) 20 3 true).run Tryz.prog w = .ok (.tuple #[.int .i64 0, .bool false]) w := no_3 32 v w (by decide)
@[go_sem] theorem no_27_21 (v : Value) (w : World) : (Instr.typeAssert (.iface 32 v) 20 21 true).run Tryz.prog w = .ok (.tuple #[.int .i32 0, .bool false]) w := no_21 32 v w (by decide)
@[go_sem] theorem no_27_2 (v : Value) (w : World) : (Instr.typeAssert (.iface 32 v) 20 2 true).run Tryz.prog w = .ok (.tuple #[.int .i64 0, .bool false]) w := no_2 32 v w (by decide)
@[go_sem] theorem no_27_68 (v : Value) (w : World) : (Instr.typeAssert (.iface 32 v) 20 51 true).run Tryz.prog w = .ok (.tuple #[.int .u16 0, .bool false]) w := no_68 32 v w (by decide)
@[go_sem] theorem no_27_119 (v : Value) (w : World) : (Instr.typeAssert (.iface 32 v) 20 114 true).run Tryz.prog w = .ok (.tuple #[.int .u32 0, .bool false]) w := no_119 32 v w (by decide)
@[go_sem] theorem no_27_120 (v : Value) (w : World) : (Instr.typeAssert (.iface 32 v) 20 291 true).run Tryz.prog w = .ok (.tuple #[.float .f32 0, .bool false]) w := no_120 32 v w (by decide)
@[go_sem] theorem no_27_77 (v : Value) (w : World) : (Instr.typeAssert (.iface 32 v) 20 89 true).run Tryz.prog w = .ok (.tuple #[.float .f64 0, .bool false]) w := no_77 32 v w (by decide)
@[go_sem] theorem no_27_122 (v : Value) (w : World) : (Instr.typeAssert (.iface 32 v) 20 293 true).run Tryz.prog w = .ok (.tuple #[.agg #[.int .u8 0, .int .i32 0], .bool false]) w := no_122 32 v w (by decide)
@[go_sem] theorem no_27_9 (v : Value) (w : World) : (Instr.typeAssert (.iface 32 v) 20 9 true).run Tryz.prog w = .ok (.tuple #[.string ⟨#[]⟩, .bool false]) w := no_9 32 v w (by decide)
@[go_sem] theorem no_27_127 (v : Value) (w : World) : (Instr.typeAssert (.iface 32 v) 20 295 true).run Tryz.prog w = .ok (.tuple #[.slice none 0 0, .bool false]) w := no_127 32 v w (by decide)
@[go_sem] theorem no_27_125 (v : Value) (w : World) : (Instr.typeAssert (.iface 32 v) 20 219 true).run Tryz.prog w = .ok (.tuple #[.agg #[.int .u64 0, .int .i64 0, .pointer none], .bool false]) w := no_125 32 v w (by decide)
@[go_sem] theorem no_27_53 (v : Value) (w : World) : (Instr.typeAssert (.iface 32 v) 20 56 true).run Tryz.prog w = .ok (.tuple #[.map none, .bool false]) w := no_53 32 v w (by decide)
@[go_sem] theorem yes_27 (v : Value) (w : World) : (Instr.typeAssert (.iface 32 v) 20 32 true).run Tryz.prog w = .ok (.tuple #[v, .bool true]) w := by kernel_rfl

/-- nine cells: a letter, then noughts -/
abbrev arr9 (k : Int) : Array Value := #[.int .u8 k, .int .u8 0, .int .u8 0, .int .u8 0, .int .u8 0, .int .u8 0, .int .u8 0, .int .u8 0, .int .u8 0]

/-- a new array behind the store of a number -/
def Arr (w : World) (pre : List Value) (e : Ending) (w' : World) : Prop :=
  e = .returned (.tuple #[]) ∧ ∃ cs, Blk w' w.heap.size 339 cs ∧ cs.toList.take pre.length = pre ∧ cs.size = 9 ∧ Below w.heap.size w w' ∧ w'.heap.size = w.heap.size + 1

theorem put2a_cells (pre l : List Value) (a b : Value) (n : Nat) : put2a (pre ++ (a :: b :: l)).toArray pre.length n = (pre ++ bcells (be n 2) ++ l).toArray := by
  rw [be2]
  unfold put2a
  apply Array.toList_inj.1
  simp [bcells]

theorem arr16 {w : World} (k : Int) (n : Nat) (hn : n < 65536) : Calls Tryz.prog 65 #[.slice (some ⟨w.heap.size, 1, none⟩) 2 8, .int .u16 n] (w.alloc (.cells (arr9 k) 339)) (Arr w (.int .u8 k :: bcells (be n 2))) := by
  have hb := Blk.new w 339 (arr9 k)
  refine (put16_any (o := 1) (c := 8) n hb hn 0 0 rfl rfl).mono ?_
  rintro e w1 ⟨rfl, rfl⟩
  refine ⟨rfl, _, hb.put2 1 n, ?_, rfl, (((Below.refl _ _).alloc (Nat.le_refl _) _).setCell (by simp) _).setCell (by simp) _, by simp [World.setCell]⟩
  have := put2a_cells [.int .u8 k] [.int .u8 0, .int .u8 0, .int .u8 0, .int .u8 0, .int .u8 0, .int .u8 0] (.int .u8 0) (.int .u8 0) n
  simp only [List.cons_append, List.nil_append, List.length_cons, List.length_nil, Nat.zero_add] at this
  rw [this]
  exact List.take_left (l₁ := .int .u8 k :: bcells (be n 2))

theorem arr32 {w : World} (k : Int) (n : Nat) (hn : n < 4294967296) : Calls Tryz.prog 66 #[.slice (some ⟨w.heap.size, 1, none⟩) 4 8, .int .u32 n] (w.alloc (.cells (arr9 k) 339)) (Arr w (.int .u8 k :: bcells (be n 4))) := by
  have hb := Blk.new w 339 (arr9 k)
  refine (put32_any (o := 1) (m := 4) (c := 8) n hb hn (by omega) 0 0 0 0 rfl rfl rfl rfl).mono ?_
  rintro e w1 ⟨rfl, rfl⟩
  refine ⟨rfl, _, hb.put4 1 n, ?_, rfl, (((((Below.refl _ _).alloc (Nat.le_refl _) _).setCell (by simp) _).setCell (by simp) _).setCell (by simp) _).setCell (by simp) _, by simp [World.setCell]⟩
  have := put4a_zero (.int .u8 0) (.int .u8 0) (.int .u8 0) (.int .u8 0) [.int .u8 0, .int .u8 0, .int .u8 0, .int .u8 0] n [.int .u8 k]
  simp only [List.cons_append, List.nil_append, List.length_cons, List.length_nil, Nat.zero_add] at this
  rw [this]
  exact List.take_left (l₁ := .int .u8 k :: bcells (be n 4))

theorem below_put4 {B g o n : Nat} {w w1 : World} (h : Below B w w1) (hg : B ≤ g) : Below B w (put4c w1 g o n) := (((h.setCell hg _).setCell hg _).setCell hg _).setCell hg _
theorem size_put4 (g o n : Nat) (w : World) : (put4c w g o n).heap.size = w.heap.size := by simp [World.setCell]

theorem cells64 (k : Int) (n : Nat) : put4a (put4a (arr9 k) 1 (n / 4294967296)) (1 + 4) (n % 4294967296) = (.int .u8 k :: bcells (be n 8)).toArray := by
  have h1 := put4a_zero (.int .u8 0) (.int .u8 0) (.int .u8 0) (.int .u8 0) [.int .u8 0, .int .u8 0, .int .u8 0, .int .u8 0] (n / 4294967296) [.int .u8 k]
  have h2 := put4a_zero (.int .u8 0) (.int .u8 0) (.int .u8 0) (.int .u8 0) [] (n % 4294967296) (.int .u8 k :: bcells (be (n / 4294967296) 4))
  have e : (Value.int .u8 k :: bcells (be (n / 4294967296) 4)).length = 1 + 4 := by rw [List.length_cons, bcells_length, be_len]
  simp only [List.cons_append, List.nil_append, List.length_cons, List.length_nil, Nat.zero_add] at h1
  rw [e, List.append_nil] at h2
  rw [h1, be8_split, bcells_append]
  exact h2

theorem arr64 {w : World} (k : Int) (n : Nat) (hn : n < 18446744073709551616) : Calls Tryz.prog 67 #[.slice (some ⟨w.heap.size, 1, none⟩) 8 8, .int .u64 n] (w.alloc (.cells (arr9 k) 339)) (Arr w (.int .u8 k :: bcells (be n 8))) := by
  have hb := Blk.new w 339 (arr9 k)
  refine (put64_any (o := 1) (c := 8) n hb hn (by omega) 0 0 0 0 0 0 0 0 rfl rfl rfl rfl rfl rfl rfl rfl).mono ?_
  rintro e w1 ⟨rfl, hw⟩
  have hk := (hb.put4 1 (n / 4294967296)).put4 (1 + 4) (n % 4294967296)
  have hl : Below w.heap.size w (put4c (put4c (w.alloc (.cells (arr9 k) 339)) w.heap.size 1 (n / 4294967296)) w.heap.size (1 + 4) (n % 4294967296)) := below_put4 (below_put4 ((Below.refl _ _).alloc (Nat.le_refl _) _) (Nat.le_refl _)) (Nat.le_refl _)
  have hs : (put4c (put4c (w.alloc (.cells (arr9 k) 339)) w.heap.size 1 (n / 4294967296)) w.heap.size (1 + 4) (n % 4294967296)).heap.size = w.heap.size + 1 := by rw [size_put4, size_put4]; simp
  rw [cells64] at hk
  rw [← hw] at hk hl hs
  refine ⟨rfl, _, hk, List.take_length, ?_, hl, hs⟩
  simp [bcells_length, be_len]

end Go.Proofs.YtabeppaehenefaaGreat
