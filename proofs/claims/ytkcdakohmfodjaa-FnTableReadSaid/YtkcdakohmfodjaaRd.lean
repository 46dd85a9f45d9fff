/-
  Readers: readFixed, kind by kind.
-/
import Derived.Test.YtkcdakohmfodjaaRc
namespace Go.Proofs.Ytkcdakohmfodjaa
open Go.RowKit
attribute [local go_sem ↓] Go.wp_at_zero Go.wp_at_succ

theorem list1' {α : Type} (l : List α) (h : l.length = 1) : ∃ a0, l = [a0] := by
  rcases l with _ | ⟨a0, _ | ⟨x, t⟩⟩
  all_goals first | (exfalso; simp at h; done) | exact ⟨a0, rfl⟩
theorem list2' {α : Type} (l : List α) (h : l.length = 2) : ∃ a0 a1, l = [a0, a1] := by
  rcases l with _ | ⟨a0, _ | ⟨a1, _ | ⟨x, t⟩⟩⟩
  all_goals first | (exfalso; simp at h; done) | exact ⟨a0, a1, rfl⟩
theorem list4' {α : Type} (l : List α) (h : l.length = 4) : ∃ a0 a1 a2 a3, l = [a0, a1, a2, a3] := by
  rcases l with _ | ⟨a0, _ | ⟨a1, _ | ⟨a2, _ | ⟨a3, _ | ⟨x, t⟩⟩⟩⟩⟩
  all_goals first | (exfalso; simp at h; done) | exact ⟨a0, a1, a2, a3, rfl⟩
theorem list8' {α : Type} (l : List α) (h : l.length = 8) : ∃ a0 a1 a2 a3 a4 a5 a6 a7, l = [a0, a1, a2, a3, a4, a5, a6, a7] := by
  rcases l with _ | ⟨a0, _ | ⟨a1, _ | ⟨a2, _ | ⟨a3, _ | ⟨a4, _ | ⟨a5, _ | ⟨a6, _ | ⟨a7, _ | ⟨x, t⟩⟩⟩⟩⟩⟩⟩⟩⟩
  all_goals first | (exfalso; simp at h; done) | exact ⟨a0, a1, a2, a3, a4, a5, a6, a7, rfl⟩

theorem pz_185 (w : World) : (zeroValue 185).run Try.prog w = .ok (.pointer none) w := by kernel_rfl
theorem pu_185 : plainT (Try.prog.underlying 185) = true := by kernel_rfl
theorem pz_188 (w : World) : (zeroValue 188).run Try.prog w = .ok (.pointer none) w := by kernel_rfl
theorem pu_188 : plainT (Try.prog.underlying 188) = true := by kernel_rfl
theorem pz_192 (w : World) : (zeroValue 192).run Try.prog w = .ok (.pointer none) w := by kernel_rfl
theorem pu_192 : plainT (Try.prog.underlying 192) = true := by kernel_rfl
theorem pz_189 (w : World) : (zeroValue 189).run Try.prog w = .ok (.pointer none) w := by kernel_rfl
theorem pu_189 : plainT (Try.prog.underlying 189) = true := by kernel_rfl
theorem pz_183 (w : World) : (zeroValue 183).run Try.prog w = .ok (.pointer none) w := by kernel_rfl
theorem pu_183 : plainT (Try.prog.underlying 183) = true := by kernel_rfl
theorem pz_190 (w : World) : (zeroValue 190).run Try.prog w = .ok (.pointer none) w := by kernel_rfl
theorem pu_190 : plainT (Try.prog.underlying 190) = true := by kernel_rfl
theorem pz_193 (w : World) : (zeroValue 193).run Try.prog w = .ok (.pointer none) w := by kernel_rfl
theorem pu_193 : plainT (Try.prog.underlying 193) = true := by kernel_rfl
theorem pz_213 (w : World) : (zeroValue 213).run Try.prog w = .ok (.pointer none) w := by kernel_rfl
theorem pu_213 : plainT (Try.prog.underlying 213) = true := by kernel_rfl
theorem pz_191 (w : World) : (zeroValue 191).run Try.prog w = .ok (.pointer none) w := by kernel_rfl
theorem pu_191 : plainT (Try.prog.underlying 191) = true := by kernel_rfl
theorem pz_194 (w : World) : (zeroValue 194).run Try.prog w = .ok (.pointer none) w := by kernel_rfl
theorem pu_194 : plainT (Try.prog.underlying 194) = true := by kernel_rfl
@[go_sem] theorem py_185 (v : Value) (w : World) : (Instr.typeAssert (.iface 185 v) 20 185 true).run Try.prog w = .ok (.tuple #[v, .bool true]) w := by kernel_rfl
@[go_sem] theorem pn_185_188 (v : Value) (w : World) : (Instr.typeAssert (.iface 185 v) 20 188 true).run Try.prog w = .ok (.tuple #[.pointer none, .bool false]) w := ta_no 188 185 v _ w pu_188 (pz_188 w) (by decide)
@[go_sem] theorem pn_188_185 (v : Value) (w : World) : (Instr.typeAssert (.iface 188 v) 20 185 true).run Try.prog w = .ok (.tuple #[.pointer none, .bool false]) w := ta_no 185 188 v _ w pu_185 (pz_185 w) (by decide)
@[go_sem] theorem py_188 (v : Value) (w : World) : (Instr.typeAssert (.iface 188 v) 20 188 true).run Try.prog w = .ok (.tuple #[v, .bool true]) w := by kernel_rfl
@[go_sem] theorem pn_189_185 (v : Value) (w : World) : (Instr.typeAssert (.iface 189 v) 20 185 true).run Try.prog w = .ok (.tuple #[.pointer none, .bool false]) w := ta_no 185 189 v _ w pu_185 (pz_185 w) (by decide)
@[go_sem] theorem pn_189_188 (v : Value) (w : World) : (Instr.typeAssert (.iface 189 v) 20 188 true).run Try.prog w = .ok (.tuple #[.pointer none, .bool false]) w := ta_no 188 189 v _ w pu_188 (pz_188 w) (by decide)
@[go_sem] theorem pn_189_192 (v : Value) (w : World) : (Instr.typeAssert (.iface 189 v) 20 192 true).run Try.prog w = .ok (.tuple #[.pointer none, .bool false]) w := ta_no 192 189 v _ w pu_192 (pz_192 w) (by decide)
@[go_sem] theorem py_189 (v : Value) (w : World) : (Instr.typeAssert (.iface 189 v) 20 189 true).run Try.prog w = .ok (.tuple #[v, .bool true]) w := by kernel_rfl
@[go_sem] theorem pn_183_185 (v : Value) (w : World) : (Instr.typeAssert (.iface 183 v) 20 185 true).run Try.prog w = .ok (.tuple #[.pointer none, .bool false]) w := ta_no 185 183 v _ w pu_185 (pz_185 w) (by decide)
@[go_sem] theorem pn_183_188 (v : Value) (w : World) : (Instr.typeAssert (.iface 183 v) 20 188 true).run Try.prog w = .ok (.tuple #[.pointer none, .bool false]) w := ta_no 188 183 v _ w pu_188 (pz_188 w) (by decide)
@[go_sem] theorem pn_183_192 (v : Value) (w : World) : (Instr.typeAssert (.iface 183 v) 20 192 true).run Try.prog w = .ok (.tuple #[.pointer none, .bool false]) w := ta_no 192 183 v _ w pu_192 (pz_192 w) (by decide)
@[go_sem] theorem pn_183_189 (v : Value) (w : World) : (Instr.typeAssert (.iface 183 v) 20 189 true).run Try.prog w = .ok (.tuple #[.pointer none, .bool false]) w := ta_no 189 183 v _ w pu_189 (pz_189 w) (by decide)
@[go_sem] theorem py_183 (v : Value) (w : World) : (Instr.typeAssert (.iface 183 v) 20 183 true).run Try.prog w = .ok (.tuple #[v, .bool true]) w := by kernel_rfl
@[go_sem] theorem pn_183_190 (v : Value) (w : World) : (Instr.typeAssert (.iface 183 v) 20 190 true).run Try.prog w = .ok (.tuple #[.pointer none, .bool false]) w := ta_no 190 183 v _ w pu_190 (pz_190 w) (by decide)
@[go_sem] theorem pn_183_193 (v : Value) (w : World) : (Instr.typeAssert (.iface 183 v) 20 193 true).run Try.prog w = .ok (.tuple #[.pointer none, .bool false]) w := ta_no 193 183 v _ w pu_193 (pz_193 w) (by decide)
@[go_sem] theorem pn_190_185 (v : Value) (w : World) : (Instr.typeAssert (.iface 190 v) 20 185 true).run Try.prog w = .ok (.tuple #[.pointer none, .bool false]) w := ta_no 185 190 v _ w pu_185 (pz_185 w) (by decide)
@[go_sem] theorem pn_190_188 (v : Value) (w : World) : (Instr.typeAssert (.iface 190 v) 20 188 true).run Try.prog w = .ok (.tuple #[.pointer none, .bool false]) w := ta_no 188 190 v _ w pu_188 (pz_188 w) (by decide)
@[go_sem] theorem pn_190_192 (v : Value) (w : World) : (Instr.typeAssert (.iface 190 v) 20 192 true).run Try.prog w = .ok (.tuple #[.pointer none, .bool false]) w := ta_no 192 190 v _ w pu_192 (pz_192 w) (by decide)
@[go_sem] theorem pn_190_189 (v : Value) (w : World) : (Instr.typeAssert (.iface 190 v) 20 189 true).run Try.prog w = .ok (.tuple #[.pointer none, .bool false]) w := ta_no 189 190 v _ w pu_189 (pz_189 w) (by decide)
@[go_sem] theorem pn_190_183 (v : Value) (w : World) : (Instr.typeAssert (.iface 190 v) 20 183 true).run Try.prog w = .ok (.tuple #[.pointer none, .bool false]) w := ta_no 183 190 v _ w pu_183 (pz_183 w) (by decide)
@[go_sem] theorem py_190 (v : Value) (w : World) : (Instr.typeAssert (.iface 190 v) 20 190 true).run Try.prog w = .ok (.tuple #[v, .bool true]) w := by kernel_rfl
@[go_sem] theorem pn_190_193 (v : Value) (w : World) : (Instr.typeAssert (.iface 190 v) 20 193 true).run Try.prog w = .ok (.tuple #[.pointer none, .bool false]) w := ta_no 193 190 v _ w pu_193 (pz_193 w) (by decide)
@[go_sem] theorem pn_193_185 (v : Value) (w : World) : (Instr.typeAssert (.iface 193 v) 20 185 true).run Try.prog w = .ok (.tuple #[.pointer none, .bool false]) w := ta_no 185 193 v _ w pu_185 (pz_185 w) (by decide)
@[go_sem] theorem pn_193_188 (v : Value) (w : World) : (Instr.typeAssert (.iface 193 v) 20 188 true).run Try.prog w = .ok (.tuple #[.pointer none, .bool false]) w := ta_no 188 193 v _ w pu_188 (pz_188 w) (by decide)
@[go_sem] theorem pn_193_192 (v : Value) (w : World) : (Instr.typeAssert (.iface 193 v) 20 192 true).run Try.prog w = .ok (.tuple #[.pointer none, .bool false]) w := ta_no 192 193 v _ w pu_192 (pz_192 w) (by decide)
@[go_sem] theorem pn_193_189 (v : Value) (w : World) : (Instr.typeAssert (.iface 193 v) 20 189 true).run Try.prog w = .ok (.tuple #[.pointer none, .bool false]) w := ta_no 189 193 v _ w pu_189 (pz_189 w) (by decide)
@[go_sem] theorem pn_193_183 (v : Value) (w : World) : (Instr.typeAssert (.iface 193 v) 20 183 true).run Try.prog w = .ok (.tuple #[.pointer none, .bool false]) w := ta_no 183 193 v _ w pu_183 (pz_183 w) (by decide)
@[go_sem] theorem pn_193_190 (v : Value) (w : World) : (Instr.typeAssert (.iface 193 v) 20 190 true).run Try.prog w = .ok (.tuple #[.pointer none, .bool false]) w := ta_no 190 193 v _ w pu_190 (pz_190 w) (by decide)
@[go_sem] theorem py_193 (v : Value) (w : World) : (Instr.typeAssert (.iface 193 v) 20 193 true).run Try.prog w = .ok (.tuple #[v, .bool true]) w := by kernel_rfl
@[go_sem] theorem pn_191_185 (v : Value) (w : World) : (Instr.typeAssert (.iface 191 v) 20 185 true).run Try.prog w = .ok (.tuple #[.pointer none, .bool false]) w := ta_no 185 191 v _ w pu_185 (pz_185 w) (by decide)
@[go_sem] theorem pn_191_188 (v : Value) (w : World) : (Instr.typeAssert (.iface 191 v) 20 188 true).run Try.prog w = .ok (.tuple #[.pointer none, .bool false]) w := ta_no 188 191 v _ w pu_188 (pz_188 w) (by decide)
@[go_sem] theorem pn_191_192 (v : Value) (w : World) : (Instr.typeAssert (.iface 191 v) 20 192 true).run Try.prog w = .ok (.tuple #[.pointer none, .bool false]) w := ta_no 192 191 v _ w pu_192 (pz_192 w) (by decide)
@[go_sem] theorem pn_191_189 (v : Value) (w : World) : (Instr.typeAssert (.iface 191 v) 20 189 true).run Try.prog w = .ok (.tuple #[.pointer none, .bool false]) w := ta_no 189 191 v _ w pu_189 (pz_189 w) (by decide)
@[go_sem] theorem pn_191_183 (v : Value) (w : World) : (Instr.typeAssert (.iface 191 v) 20 183 true).run Try.prog w = .ok (.tuple #[.pointer none, .bool false]) w := ta_no 183 191 v _ w pu_183 (pz_183 w) (by decide)
@[go_sem] theorem pn_191_190 (v : Value) (w : World) : (Instr.typeAssert (.iface 191 v) 20 190 true).run Try.prog w = .ok (.tuple #[.pointer none, .bool false]) w := ta_no 190 191 v _ w pu_190 (pz_190 w) (by decide)
@[go_sem] theorem pn_191_193 (v : Value) (w : World) : (Instr.typeAssert (.iface 191 v) 20 193 true).run Try.prog w = .ok (.tuple #[.pointer none, .bool false]) w := ta_no 193 191 v _ w pu_193 (pz_193 w) (by decide)
@[go_sem] theorem pn_191_213 (v : Value) (w : World) : (Instr.typeAssert (.iface 191 v) 20 213 true).run Try.prog w = .ok (.tuple #[.pointer none, .bool false]) w := ta_no 213 191 v _ w pu_213 (pz_213 w) (by decide)
@[go_sem] theorem py_191 (v : Value) (w : World) : (Instr.typeAssert (.iface 191 v) 20 191 true).run Try.prog w = .ok (.tuple #[v, .bool true]) w := by kernel_rfl
@[go_sem] theorem pn_191_194 (v : Value) (w : World) : (Instr.typeAssert (.iface 191 v) 20 194 true).run Try.prog w = .ok (.tuple #[.pointer none, .bool false]) w := ta_no 194 191 v _ w pu_194 (pz_194 w) (by decide)
@[go_sem] theorem pn_194_185 (v : Value) (w : World) : (Instr.typeAssert (.iface 194 v) 20 185 true).run Try.prog w = .ok (.tuple #[.pointer none, .bool false]) w := ta_no 185 194 v _ w pu_185 (pz_185 w) (by decide)
@[go_sem] theorem pn_194_188 (v : Value) (w : World) : (Instr.typeAssert (.iface 194 v) 20 188 true).run Try.prog w = .ok (.tuple #[.pointer none, .bool false]) w := ta_no 188 194 v _ w pu_188 (pz_188 w) (by decide)
@[go_sem] theorem pn_194_192 (v : Value) (w : World) : (Instr.typeAssert (.iface 194 v) 20 192 true).run Try.prog w = .ok (.tuple #[.pointer none, .bool false]) w := ta_no 192 194 v _ w pu_192 (pz_192 w) (by decide)
@[go_sem] theorem pn_194_189 (v : Value) (w : World) : (Instr.typeAssert (.iface 194 v) 20 189 true).run Try.prog w = .ok (.tuple #[.pointer none, .bool false]) w := ta_no 189 194 v _ w pu_189 (pz_189 w) (by decide)
@[go_sem] theorem pn_194_183 (v : Value) (w : World) : (Instr.typeAssert (.iface 194 v) 20 183 true).run Try.prog w = .ok (.tuple #[.pointer none, .bool false]) w := ta_no 183 194 v _ w pu_183 (pz_183 w) (by decide)
@[go_sem] theorem pn_194_190 (v : Value) (w : World) : (Instr.typeAssert (.iface 194 v) 20 190 true).run Try.prog w = .ok (.tuple #[.pointer none, .bool false]) w := ta_no 190 194 v _ w pu_190 (pz_190 w) (by decide)
@[go_sem] theorem pn_194_193 (v : Value) (w : World) : (Instr.typeAssert (.iface 194 v) 20 193 true).run Try.prog w = .ok (.tuple #[.pointer none, .bool false]) w := ta_no 193 194 v _ w pu_193 (pz_193 w) (by decide)
@[go_sem] theorem pn_194_213 (v : Value) (w : World) : (Instr.typeAssert (.iface 194 v) 20 213 true).run Try.prog w = .ok (.tuple #[.pointer none, .bool false]) w := ta_no 213 194 v _ w pu_213 (pz_213 w) (by decide)
@[go_sem] theorem pn_194_191 (v : Value) (w : World) : (Instr.typeAssert (.iface 194 v) 20 191 true).run Try.prog w = .ok (.tuple #[.pointer none, .bool false]) w := ta_no 191 194 v _ w pu_191 (pz_191 w) (by decide)
@[go_sem] theorem py_194 (v : Value) (w : World) : (Instr.typeAssert (.iface 194 v) 20 194 true).run Try.prog w = .ok (.tuple #[v, .bool true]) w := by kernel_rfl
@[go_sem] theorem mkrow_1 (w : World) : (Instr.makeSlice 27 (.int .i64 1) (.int .i64 1)).run Try.prog w = .ok (.slice (some ⟨w.heap.size, 0, none⟩) 1 1) (w.alloc (.cells #[.int .u8 0] 5)) := by kernel_rfl
@[go_sem] theorem mkrow_2 (w : World) : (Instr.makeSlice 27 (.int .i64 2) (.int .i64 2)).run Try.prog w = .ok (.slice (some ⟨w.heap.size, 0, none⟩) 2 2) (w.alloc (.cells #[.int .u8 0, .int .u8 0] 5)) := by kernel_rfl
@[go_sem] theorem mkrow_4 (w : World) : (Instr.makeSlice 27 (.int .i64 4) (.int .i64 4)).run Try.prog w = .ok (.slice (some ⟨w.heap.size, 0, none⟩) 4 4) (w.alloc (.cells #[.int .u8 0, .int .u8 0, .int .u8 0, .int .u8 0] 5)) := by kernel_rfl
@[go_sem] theorem mkrow_8 (w : World) : (Instr.makeSlice 27 (.int .i64 8) (.int .i64 8)).run Try.prog w = .ok (.slice (some ⟨w.heap.size, 0, none⟩) 8 8) (w.alloc (.cells #[.int .u8 0, .int .u8 0, .int .u8 0, .int .u8 0, .int .u8 0, .int .u8 0, .int .u8 0, .int .u8 0] 5)) := by kernel_rfl

@[go_sem] theorem frombits32 (n : Int) (_h0 : 0 ≤ n) (w : World) : (callFunc 110 #[.int .u32 n]).run Try.prog w = .ok (.value (.float .f32 n.toNat)) w := by kernel_rfl
@[go_sem] theorem frombits64 (n : Int) (_h0 : 0 ≤ n) (w : World) : (callFunc 112 #[.int .u64 n]).run Try.prog w = .ok (.value (.float .f64 n.toNat)) w := by kernel_rfl

theorem eof_nil (s : ByteArray) (w : World) : (binOp .neq 57 (.iface 179 (.string s)) .nilIface).run Try.prog w = .ok (.bool true) w := by kernel_rfl

/-- what a read of n bytes into a cell comes to -/
def FixPost (w : World) (B : Nat) (r : Value) (ns : List Nat) (ys : List UInt8) (S : List Nat) (R : Option Nat) (pb q : Nat) (T : TypeId) (cs : Array Value) (n : Nat) (val : List UInt8 → Value) (e : Ending) (w' : World) : Prop :=
  (n ≤ avail ns ys ∧ e = .returned .nilIface ∧ Blk w' pb T (cs.setIfInBounds q (val (ys.take n))) ∧ Rr w' B r (ns.map (· - n)) (ys.drop n) S R ∧ But w w' (pb :: S)) ∨
  (avail ns ys < n ∧ ∃ s : ByteArray, e = .returned (.iface 179 (.string s)) ∧ Blk w' pb T cs ∧ (avail ns ys = 0 → s = ⟨#[69, 79, 70]⟩ ∧ Rr w' B r ns ys S R) ∧ (∃ j, Rr w' B r (ns.map (· - j)) (ys.drop j) S R) ∧ But w w' (pb :: S))

theorem fullpost_ok {G : TypeId} {w : World} {B : Nat} {r : Value} {ns : List Nat} {ys : List UInt8} {S : List Nat} {R : Option Nat} {g o m : Nat} {cs : Array Value} {e : Ending} {w' : World} (h : FullPost G w B r ns ys S R g o m cs e w') (ha : m ≤ avail ns ys) :
    e = .returned (.tuple #[.int .i64 m, .nilIface]) ∧ Blk w' g G (spl cs o (ys.take m)) ∧ Rr w' B r (ns.map (· - m)) (ys.drop m) S R ∧ But w w' (g :: S) := by
  rcases h with ⟨_, h1, h2, h3, h4⟩ | ⟨h, _⟩
  · exact ⟨h1, h2, h3, h4⟩
  · omega
theorem fullpost_short {G : TypeId} {w : World} {B : Nat} {r : Value} {ns : List Nat} {ys : List UInt8} {S : List Nat} {R : Option Nat} {g o m : Nat} {cs : Array Value} {e : Ending} {w' : World} (h : FullPost G w B r ns ys S R g o m cs e w') (ha : avail ns ys < m) :
    ∃ (k : Nat) (s : ByteArray), e = .returned (.tuple #[.int .i64 k, .iface 179 (.string s)]) ∧ (avail ns ys = 0 → s = ⟨#[69, 79, 70]⟩ ∧ Rr w' B r ns ys S R) ∧ (∃ j, Rr w' B r (ns.map (· - j)) (ys.drop j) S R) ∧ But w w' (g :: S) := by
  rcases h with ⟨h, _⟩ | ⟨_, k, s, h1, h2, h3, h4⟩
  · omega
  · exact ⟨k, s, h1, h2, h3, h4⟩

theorem Rr.alloc {w : World} {B : Nat} {r : Value} {ns : List Nat} {ys : List UInt8} {S : List Nat} {R : Option Nat} (h : Rr w B r ns ys S R) (hB : B ≤ w.heap.size) (ob : Obj) (hR : ∀ x, R = some x → x < w.heap.size) : Rr (w.alloc ob) B r ns ys S R :=
  h.keep (fun x hx => Below.heap_alloc _ _ _ (by have := h.lt x hx; omega)) (fun x hx => Below.heap_alloc _ _ _ (hR x hx))
/-- a store to a cell that is not the reader's -/
theorem Rr.store {w : World} {B : Nat} {r : Value} {ns : List Nat} {ys : List UInt8} {S : List Nat} {R : Option Nat} (h : Rr w B r ns ys S R) {pb : Nat} (hS : pb ∉ S) (hR : R ≠ some pb) (q : Nat) (u : Value) : Rr (w.setCell ⟨pb, q, none⟩ u) B r ns ys S R :=
  h.keep (fun x hx => Below.heap_setCell _ _ _ _ (fun e => by subst e; exact hS hx)) (fun x hx => Below.heap_setCell _ _ _ _ (fun e => hR (by rw [hx, e])))
theorem Rr.drewN {w : World} {B : Nat} {r : Value} {ns : List Nat} {ys : List UInt8} {S : List Nat} {R : Option Nat} (h : Rr w B r ns ys S R) (n : Nat) : Rr (w.drewN n) B r ns ys S R := h.keep (fun _ _ => rfl) (fun _ _ => rfl)


set_option maxRecDepth 100000 in
set_option maxHeartbeats 4000000 in
theorem rf_185 {w : World} {B : Nat} {r : Value} {ns : List Nat} {ys : List UInt8} {S : List Nat} {R : Option Nat} {pb q : Nat} {T : TypeId} {cs : Array Value} {old : Value} (h : Rr w B r ns ys S R) (hs : Small ns) (hys : ys.length ≤ 1000000000) (hp : Blk w pb T cs) (hq : cs[q]? = some old) (_hold : old.oneCell' = true)
    (hpS : pb ∉ S) (hpR : R ≠ some pb) (hRl : ∀ x, R = some x → x < w.heap.size) (hB : B ≤ w.heap.size) :
    Calls Try.prog 87 #[r, .iface 185 (.pointer (some ⟨pb, q, none⟩))] w (FixPost w B r ns ys S R pb q T cs 1 (fun l => .int .u8 (num l))) := by
  obtain ⟨T0, a0, hr0⟩ := h.shape
  obtain ⟨r0, hr1⟩ : ∃ r0, r0 = r := ⟨_, rfl⟩
  have hpl := hp.lt
  have hfull := readFull_any (w := w.alloc (.cells #[.int .u8 0] 5)) (g := w.heap.size) (o := 0) (m := 1) (c := 1) (cs := #[.int .u8 0]) (h.alloc hB _ hRl) hs (Blk.new w 5 _) hB (Nat.le_refl _) (by omega) (by simp) hys
  have HF := Lib.hid hfull
  have HPS := Lib.hid hpS
  have HPR := Lib.hid hpR
  have HL := Lib.hid (h.lt)
  have HRL := Lib.hid hRl
  have hp0 := hp.alloc (.cells #[.int .u8 0] 5)
  have hbut0 : But w (w.alloc (.cells #[.int .u8 0] 5)) (pb :: S) := (But.refl _ _).alloc _
  have hgS : pb ∉ w.heap.size :: S := by
    intro hm
    rcases List.mem_cons.1 hm with e | e
    · omega
    · exact hpS e
  have HGS := Lib.hid hgS
  subst hr0
  clear h hfull hpS hpR hRl hgS
  by_cases hav : 1 ≤ avail ns ys
  · have HA := Lib.hid hav
    have hle := avail_le ns ys
    obtain ⟨b0, hbs⟩ : ∃ b0, ys.take 1 = [b0] := by
      have hl : (ys.take 1).length = 1 := by rw [List.length_take]; omega
      exact list1' _ hl
    have HBs := Lib.hid hbs
    clear hav hle hbs
    go_enter Try.func87, Try.ntmps87
    go_wp2_with fail
    refine HF.out.mono ?_
    rintro e w2 hpost
    obtain ⟨rfl, g1, hr2, hb2⟩ := fullpost_ok hpost HA.out
    rw [HBs.out] at g1
    rw [← hr1] at hr2
    have r2 := Lib.hid hr2
    have p2 := hb2.blk hp0 HGS.out
    have bw : But w w2 (pb :: S) := hbut0.weaken hb2 (fun x hx => by
      rcases List.mem_cons.1 hx with e | e
      · exact .inr (by omega)
      · exact .inl (List.mem_cons_of_mem _ e))
    have y0 : w2.cell? ⟨pb, q, none⟩ = some old := by rw [p2.cell]; exact hq
    have y1 := p2.frozen q
    have x0 : w2.cell? ⟨w.heap.size, 0, none⟩ = some (.int .u8 b0.toNat) := by rw [g1.cell]; rfl
    clear hpost hr2 hb2 g1
    go_wp2_with fail
    go_ret
    refine .inl ⟨HA.out, rfl, ?_, ?_, ?_⟩
    · rw [HBs.out]
      have hn : num [b0] = b0.toNat := by simp only [num, List.foldl]; omega
      simpa [hn, IntWalk.i32_left, IntWalk.i64_left] using (p2).set_ q (.int .u8 (((b0.toNat : Nat) : Int)))
    · rw [← hr1]
      exact (r2.out).store HPS.out HPR.out _ _
    · exact bw.setCell (.inl (by simp)) _
  · have hsh : avail ns ys < 1 := by omega
    have HA := Lib.hid hsh
    clear hav hsh
    go_enter Try.func87, Try.ntmps87
    go_wp2_with fail
    refine HF.out.mono ?_
    rintro e w2 hpost
    obtain ⟨k, s, rfl, hz, hrj, hb2⟩ := fullpost_short hpost HA.out
    have HZ := Lib.hid hz
    have HRJ := Lib.hid hrj
    have p2 := hb2.blk hp0 HGS.out
    have bw : But w w2 (pb :: S) := hbut0.weaken hb2 (fun x hx => by
      rcases List.mem_cons.1 hx with e | e
      · exact .inr (by omega)
      · exact .inl (List.mem_cons_of_mem _ e))
    have hen := fun w => eof_nil s w
    clear hpost hz hrj hb2
    go_wp2_with fail
    go_ret
    exact .inr ⟨HA.out, s, rfl, p2, HZ.out, HRJ.out, bw⟩


set_option maxRecDepth 100000 in
set_option maxHeartbeats 4000000 in
theorem rf_188 {w : World} {B : Nat} {r : Value} {ns : List Nat} {ys : List UInt8} {S : List Nat} {R : Option Nat} {pb q : Nat} {T : TypeId} {cs : Array Value} {old : Value} (h : Rr w B r ns ys S R) (hs : Small ns) (hys : ys.length ≤ 1000000000) (hp : Blk w pb T cs) (hq : cs[q]? = some old) (_hold : old.oneCell' = true)
    (hpS : pb ∉ S) (hpR : R ≠ some pb) (hRl : ∀ x, R = some x → x < w.heap.size) (hB : B ≤ w.heap.size) :
    Calls Try.prog 87 #[r, .iface 188 (.pointer (some ⟨pb, q, none⟩))] w (FixPost w B r ns ys S R pb q T cs 1 (fun l => .int .i8 (IntKind.i8.wrap (num l)))) := by
  obtain ⟨T0, a0, hr0⟩ := h.shape
  obtain ⟨r0, hr1⟩ : ∃ r0, r0 = r := ⟨_, rfl⟩
  have hpl := hp.lt
  have hfull := readFull_any (w := w.alloc (.cells #[.int .u8 0] 5)) (g := w.heap.size) (o := 0) (m := 1) (c := 1) (cs := #[.int .u8 0]) (h.alloc hB _ hRl) hs (Blk.new w 5 _) hB (Nat.le_refl _) (by omega) (by simp) hys
  have HF := Lib.hid hfull
  have HPS := Lib.hid hpS
  have HPR := Lib.hid hpR
  have HL := Lib.hid (h.lt)
  have HRL := Lib.hid hRl
  have hp0 := hp.alloc (.cells #[.int .u8 0] 5)
  have hbut0 : But w (w.alloc (.cells #[.int .u8 0] 5)) (pb :: S) := (But.refl _ _).alloc _
  have hgS : pb ∉ w.heap.size :: S := by
    intro hm
    rcases List.mem_cons.1 hm with e | e
    · omega
    · exact hpS e
  have HGS := Lib.hid hgS
  subst hr0
  clear h hfull hpS hpR hRl hgS
  by_cases hav : 1 ≤ avail ns ys
  · have HA := Lib.hid hav
    have hle := avail_le ns ys
    obtain ⟨b0, hbs⟩ : ∃ b0, ys.take 1 = [b0] := by
      have hl : (ys.take 1).length = 1 := by rw [List.length_take]; omega
      exact list1' _ hl
    have HBs := Lib.hid hbs
    clear hav hle hbs
    go_enter Try.func87, Try.ntmps87
    go_wp2_with fail
    refine HF.out.mono ?_
    rintro e w2 hpost
    obtain ⟨rfl, g1, hr2, hb2⟩ := fullpost_ok hpost HA.out
    rw [HBs.out] at g1
    rw [← hr1] at hr2
    have r2 := Lib.hid hr2
    have p2 := hb2.blk hp0 HGS.out
    have bw : But w w2 (pb :: S) := hbut0.weaken hb2 (fun x hx => by
      rcases List.mem_cons.1 hx with e | e
      · exact .inr (by omega)
      · exact .inl (List.mem_cons_of_mem _ e))
    have y0 : w2.cell? ⟨pb, q, none⟩ = some old := by rw [p2.cell]; exact hq
    have y1 := p2.frozen q
    have x0 : w2.cell? ⟨w.heap.size, 0, none⟩ = some (.int .u8 b0.toNat) := by rw [g1.cell]; rfl
    clear hpost hr2 hb2 g1
    go_wp2_with fail
    go_ret
    refine .inl ⟨HA.out, rfl, ?_, ?_, ?_⟩
    · rw [HBs.out]
      have hn : num [b0] = b0.toNat := by simp only [num, List.foldl]; omega
      simpa [hn, IntWalk.i32_left, IntWalk.i64_left] using (p2).set_ q (.int .i8 (IntKind.i8.wrap (((b0.toNat : Nat) : Int))))
    · rw [← hr1]
      exact (r2.out).store HPS.out HPR.out _ _
    · exact bw.setCell (.inl (by simp)) _
  · have hsh : avail ns ys < 1 := by omega
    have HA := Lib.hid hsh
    clear hav hsh
    go_enter Try.func87, Try.ntmps87
    go_wp2_with fail
    refine HF.out.mono ?_
    rintro e w2 hpost
    obtain ⟨k, s, rfl, hz, hrj, hb2⟩ := fullpost_short hpost HA.out
    have HZ := Lib.hid hz
    have HRJ := Lib.hid hrj
    have p2 := hb2.blk hp0 HGS.out
    have bw : But w w2 (pb :: S) := hbut0.weaken hb2 (fun x hx => by
      rcases List.mem_cons.1 hx with e | e
      · exact .inr (by omega)
      · exact .inl (List.mem_cons_of_mem _ e))
    have hen := fun w => eof_nil s w
    clear hpost hz hrj hb2
    go_wp2_with fail
    go_ret
    exact .inr ⟨HA.out, s, rfl, p2, HZ.out, HRJ.out, bw⟩


set_option maxRecDepth 100000 in
set_option maxHeartbeats 4000000 in
theorem rf_189 {w : World} {B : Nat} {r : Value} {ns : List Nat} {ys : List UInt8} {S : List Nat} {R : Option Nat} {pb q : Nat} {T : TypeId} {cs : Array Value} {old : Value} (h : Rr w B r ns ys S R) (hs : Small ns) (hys : ys.length ≤ 1000000000) (hp : Blk w pb T cs) (hq : cs[q]? = some old) (_hold : old.oneCell' = true)
    (hpS : pb ∉ S) (hpR : R ≠ some pb) (hRl : ∀ x, R = some x → x < w.heap.size) (hB : B ≤ w.heap.size) :
    Calls Try.prog 87 #[r, .iface 189 (.pointer (some ⟨pb, q, none⟩))] w (FixPost w B r ns ys S R pb q T cs 2 (fun l => .int .i16 (IntKind.i16.wrap (num l)))) := by
  obtain ⟨T0, a0, hr0⟩ := h.shape
  obtain ⟨r0, hr1⟩ : ∃ r0, r0 = r := ⟨_, rfl⟩
  have hpl := hp.lt
  have hfull := readFull_any (w := w.alloc (.cells #[.int .u8 0, .int .u8 0] 5)) (g := w.heap.size) (o := 0) (m := 2) (c := 2) (cs := #[.int .u8 0, .int .u8 0]) (h.alloc hB _ hRl) hs (Blk.new w 5 _) hB (Nat.le_refl _) (by omega) (by simp) hys
  have HF := Lib.hid hfull
  have HPS := Lib.hid hpS
  have HPR := Lib.hid hpR
  have HL := Lib.hid (h.lt)
  have HRL := Lib.hid hRl
  have hp0 := hp.alloc (.cells #[.int .u8 0, .int .u8 0] 5)
  have hbut0 : But w (w.alloc (.cells #[.int .u8 0, .int .u8 0] 5)) (pb :: S) := (But.refl _ _).alloc _
  have hgS : pb ∉ w.heap.size :: S := by
    intro hm
    rcases List.mem_cons.1 hm with e | e
    · omega
    · exact hpS e
  have HGS := Lib.hid hgS
  subst hr0
  clear h hfull hpS hpR hRl hgS
  by_cases hav : 2 ≤ avail ns ys
  · have HA := Lib.hid hav
    have hle := avail_le ns ys
    obtain ⟨b0, b1, hbs⟩ : ∃ b0 b1, ys.take 2 = [b0, b1] := by
      have hl : (ys.take 2).length = 2 := by rw [List.length_take]; omega
      exact list2' _ hl
    have HBs := Lib.hid hbs
    clear hav hle hbs
    go_enter Try.func87, Try.ntmps87
    go_wp2_with fail
    refine HF.out.mono ?_
    rintro e w2 hpost
    obtain ⟨rfl, g1, hr2, hb2⟩ := fullpost_ok hpost HA.out
    rw [HBs.out] at g1
    rw [← hr1] at hr2
    have r2 := Lib.hid hr2
    have p2 := hb2.blk hp0 HGS.out
    have bw : But w w2 (pb :: S) := hbut0.weaken hb2 (fun x hx => by
      rcases List.mem_cons.1 hx with e | e
      · exact .inr (by omega)
      · exact .inl (List.mem_cons_of_mem _ e))
    have yy0 : w2.cell? ⟨pb, q, none⟩ = some old := by rw [p2.cell]; exact hq
    have yy1 := p2.frozen q
    have x0 : w2.cell? ⟨w.heap.size, 0, none⟩ = some (.int .u8 b0.toNat) := by rw [g1.cell]; rfl
    have x1 : w2.cell? ⟨w.heap.size, 1, none⟩ = some (.int .u8 b1.toNat) := by rw [g1.cell]; rfl
    clear hpost hr2 hb2
    have hb := be16_any (w := w2) (g := w.heap.size) (o := 0) (m := 2) (c := 2) b0 b1 (by omega) x0 x1
    obtain ⟨N, hN⟩ : ∃ N : Nat, N = b0.toNat * 256 + b1.toNat := ⟨_, rfl⟩
    rw [← hN] at hb
    have HN := Lib.hid hN
    clear hN
    have hfb32 := fun w => frombits32 (N : Int) (by omega) w
    have hfb64 := fun w => frombits64 (N : Int) (by omega) w
    simp only [Int.toNat_natCast] at hfb32 hfb64
    have HBE := Lib.hid hb
    clear hb x0 x1
    go_wp2_with fail
    refine HBE.out.mono ?_
    rintro e w3 ⟨rfl, nd, hw3⟩
    have p3 : Blk w3 pb T cs := by rw [hw3]; exact p2
    have r3 : Rr w3 B r0 (ns.map (· - 2)) (ys.drop 2) S R := by rw [hw3]; exact r2.out.drewN _
    have u3 : But w w3 (pb :: S) := by rw [hw3]; exact bw.drewN _
    have y0 : w3.cell? ⟨pb, q, none⟩ = some old := by rw [p3.cell]; exact hq
    have y1 := p3.frozen q
    clear hw3 yy0 yy1
    go_wp2_with fail
    go_ret
    refine .inl ⟨HA.out, rfl, ?_, ?_, ?_⟩
    · rw [HBs.out]
      have hn : num [b0, b1] = N := by rw [HN.out]; simp only [num, List.foldl]; omega
      simpa [hn, IntWalk.i32_left, IntWalk.i64_left] using (p3).set_ q (.int .i16 (IntKind.i16.wrap (((N : Nat) : Int))))
    · rw [← hr1]
      exact (r3).store HPS.out HPR.out _ _
    · exact u3.setCell (.inl (by simp)) _
  · have hsh : avail ns ys < 2 := by omega
    have HA := Lib.hid hsh
    clear hav hsh
    go_enter Try.func87, Try.ntmps87
    go_wp2_with fail
    refine HF.out.mono ?_
    rintro e w2 hpost
    obtain ⟨k, s, rfl, hz, hrj, hb2⟩ := fullpost_short hpost HA.out
    have HZ := Lib.hid hz
    have HRJ := Lib.hid hrj
    have p2 := hb2.blk hp0 HGS.out
    have bw : But w w2 (pb :: S) := hbut0.weaken hb2 (fun x hx => by
      rcases List.mem_cons.1 hx with e | e
      · exact .inr (by omega)
      · exact .inl (List.mem_cons_of_mem _ e))
    have hen := fun w => eof_nil s w
    clear hpost hz hrj hb2
    go_wp2_with fail
    go_ret
    exact .inr ⟨HA.out, s, rfl, p2, HZ.out, HRJ.out, bw⟩


set_option maxRecDepth 100000 in
set_option maxHeartbeats 4000000 in
theorem rf_183 {w : World} {B : Nat} {r : Value} {ns : List Nat} {ys : List UInt8} {S : List Nat} {R : Option Nat} {pb q : Nat} {T : TypeId} {cs : Array Value} {old : Value} (h : Rr w B r ns ys S R) (hs : Small ns) (hys : ys.length ≤ 1000000000) (hp : Blk w pb T cs) (hq : cs[q]? = some old) (_hold : old.oneCell' = true)
    (hpS : pb ∉ S) (hpR : R ≠ some pb) (hRl : ∀ x, R = some x → x < w.heap.size) (hB : B ≤ w.heap.size) :
    Calls Try.prog 87 #[r, .iface 183 (.pointer (some ⟨pb, q, none⟩))] w (FixPost w B r ns ys S R pb q T cs 4 (fun l => .int .u32 (num l))) := by
  obtain ⟨T0, a0, hr0⟩ := h.shape
  obtain ⟨r0, hr1⟩ : ∃ r0, r0 = r := ⟨_, rfl⟩
  have hpl := hp.lt
  have hfull := readFull_any (w := w.alloc (.cells #[.int .u8 0, .int .u8 0, .int .u8 0, .int .u8 0] 5)) (g := w.heap.size) (o := 0) (m := 4) (c := 4) (cs := #[.int .u8 0, .int .u8 0, .int .u8 0, .int .u8 0]) (h.alloc hB _ hRl) hs (Blk.new w 5 _) hB (Nat.le_refl _) (by omega) (by simp) hys
  have HF := Lib.hid hfull
  have HPS := Lib.hid hpS
  have HPR := Lib.hid hpR
  have HL := Lib.hid (h.lt)
  have HRL := Lib.hid hRl
  have hp0 := hp.alloc (.cells #[.int .u8 0, .int .u8 0, .int .u8 0, .int .u8 0] 5)
  have hbut0 : But w (w.alloc (.cells #[.int .u8 0, .int .u8 0, .int .u8 0, .int .u8 0] 5)) (pb :: S) := (But.refl _ _).alloc _
  have hgS : pb ∉ w.heap.size :: S := by
    intro hm
    rcases List.mem_cons.1 hm with e | e
    · omega
    · exact hpS e
  have HGS := Lib.hid hgS
  subst hr0
  clear h hfull hpS hpR hRl hgS
  by_cases hav : 4 ≤ avail ns ys
  · have HA := Lib.hid hav
    have hle := avail_le ns ys
    obtain ⟨b0, b1, b2, b3, hbs⟩ : ∃ b0 b1 b2 b3, ys.take 4 = [b0, b1, b2, b3] := by
      have hl : (ys.take 4).length = 4 := by rw [List.length_take]; omega
      exact list4' _ hl
    have HBs := Lib.hid hbs
    clear hav hle hbs
    go_enter Try.func87, Try.ntmps87
    go_wp2_with fail
    refine HF.out.mono ?_
    rintro e w2 hpost
    obtain ⟨rfl, g1, hr2, hb2⟩ := fullpost_ok hpost HA.out
    rw [HBs.out] at g1
    rw [← hr1] at hr2
    have r2 := Lib.hid hr2
    have p2 := hb2.blk hp0 HGS.out
    have bw : But w w2 (pb :: S) := hbut0.weaken hb2 (fun x hx => by
      rcases List.mem_cons.1 hx with e | e
      · exact .inr (by omega)
      · exact .inl (List.mem_cons_of_mem _ e))
    have yy0 : w2.cell? ⟨pb, q, none⟩ = some old := by rw [p2.cell]; exact hq
    have yy1 := p2.frozen q
    have x0 : w2.cell? ⟨w.heap.size, 0, none⟩ = some (.int .u8 b0.toNat) := by rw [g1.cell]; rfl
    have x1 : w2.cell? ⟨w.heap.size, 1, none⟩ = some (.int .u8 b1.toNat) := by rw [g1.cell]; rfl
    have x2 : w2.cell? ⟨w.heap.size, 2, none⟩ = some (.int .u8 b2.toNat) := by rw [g1.cell]; rfl
    have x3 : w2.cell? ⟨w.heap.size, 3, none⟩ = some (.int .u8 b3.toNat) := by rw [g1.cell]; rfl
    clear hpost hr2 hb2
    have hb := be32_any (w := w2) (g := w.heap.size) (o := 0) (m := 4) (c := 4) b0 b1 b2 b3 (by omega) x0 x1 x2 x3
    obtain ⟨N, hN⟩ : ∃ N : Nat, N = b0.toNat * 16777216 + b1.toNat * 65536 + b2.toNat * 256 + b3.toNat := ⟨_, rfl⟩
    rw [← hN] at hb
    have HN := Lib.hid hN
    clear hN
    have hfb32 := fun w => frombits32 (N : Int) (by omega) w
    have hfb64 := fun w => frombits64 (N : Int) (by omega) w
    simp only [Int.toNat_natCast] at hfb32 hfb64
    have HBE := Lib.hid hb
    clear hb x0 x1 x2 x3
    go_wp2_with fail
    refine HBE.out.mono ?_
    rintro e w3 ⟨rfl, nd, hw3⟩
    have p3 : Blk w3 pb T cs := by rw [hw3]; exact p2
    have r3 : Rr w3 B r0 (ns.map (· - 4)) (ys.drop 4) S R := by rw [hw3]; exact r2.out.drewN _
    have u3 : But w w3 (pb :: S) := by rw [hw3]; exact bw.drewN _
    have y0 : w3.cell? ⟨pb, q, none⟩ = some old := by rw [p3.cell]; exact hq
    have y1 := p3.frozen q
    clear hw3 yy0 yy1
    go_wp2_with fail
    go_ret
    refine .inl ⟨HA.out, rfl, ?_, ?_, ?_⟩
    · rw [HBs.out]
      have hn : num [b0, b1, b2, b3] = N := by rw [HN.out]; simp only [num, List.foldl]; omega
      simpa [hn, IntWalk.i32_left, IntWalk.i64_left] using (p3).set_ q (.int .u32 (((N : Nat) : Int)))
    · rw [← hr1]
      exact (r3).store HPS.out HPR.out _ _
    · exact u3.setCell (.inl (by simp)) _
  · have hsh : avail ns ys < 4 := by omega
    have HA := Lib.hid hsh
    clear hav hsh
    go_enter Try.func87, Try.ntmps87
    go_wp2_with fail
    refine HF.out.mono ?_
    rintro e w2 hpost
    obtain ⟨k, s, rfl, hz, hrj, hb2⟩ := fullpost_short hpost HA.out
    have HZ := Lib.hid hz
    have HRJ := Lib.hid hrj
    have p2 := hb2.blk hp0 HGS.out
    have bw : But w w2 (pb :: S) := hbut0.weaken hb2 (fun x hx => by
      rcases List.mem_cons.1 hx with e | e
      · exact .inr (by omega)
      · exact .inl (List.mem_cons_of_mem _ e))
    have hen := fun w => eof_nil s w
    clear hpost hz hrj hb2
    go_wp2_with fail
    go_ret
    exact .inr ⟨HA.out, s, rfl, p2, HZ.out, HRJ.out, bw⟩


set_option maxRecDepth 100000 in
set_option maxHeartbeats 4000000 in
theorem rf_190 {w : World} {B : Nat} {r : Value} {ns : List Nat} {ys : List UInt8} {S : List Nat} {R : Option Nat} {pb q : Nat} {T : TypeId} {cs : Array Value} {old : Value} (h : Rr w B r ns ys S R) (hs : Small ns) (hys : ys.length ≤ 1000000000) (hp : Blk w pb T cs) (hq : cs[q]? = some old) (_hold : old.oneCell' = true)
    (hpS : pb ∉ S) (hpR : R ≠ some pb) (hRl : ∀ x, R = some x → x < w.heap.size) (hB : B ≤ w.heap.size) :
    Calls Try.prog 87 #[r, .iface 190 (.pointer (some ⟨pb, q, none⟩))] w (FixPost w B r ns ys S R pb q T cs 4 (fun l => .int .i32 (IntKind.i32.wrap (num l)))) := by
  obtain ⟨T0, a0, hr0⟩ := h.shape
  obtain ⟨r0, hr1⟩ : ∃ r0, r0 = r := ⟨_, rfl⟩
  have hpl := hp.lt
  have hfull := readFull_any (w := w.alloc (.cells #[.int .u8 0, .int .u8 0, .int .u8 0, .int .u8 0] 5)) (g := w.heap.size) (o := 0) (m := 4) (c := 4) (cs := #[.int .u8 0, .int .u8 0, .int .u8 0, .int .u8 0]) (h.alloc hB _ hRl) hs (Blk.new w 5 _) hB (Nat.le_refl _) (by omega) (by simp) hys
  have HF := Lib.hid hfull
  have HPS := Lib.hid hpS
  have HPR := Lib.hid hpR
  have HL := Lib.hid (h.lt)
  have HRL := Lib.hid hRl
  have hp0 := hp.alloc (.cells #[.int .u8 0, .int .u8 0, .int .u8 0, .int .u8 0] 5)
  have hbut0 : But w (w.alloc (.cells #[.int .u8 0, .int .u8 0, .int .u8 0, .int .u8 0] 5)) (pb :: S) := (But.refl _ _).alloc _
  have hgS : pb ∉ w.heap.size :: S := by
    intro hm
    rcases List.mem_cons.1 hm with e | e
    · omega
    · exact hpS e
  have HGS := Lib.hid hgS
  subst hr0
  clear h hfull hpS hpR hRl hgS
  by_cases hav : 4 ≤ avail ns ys
  · have HA := Lib.hid hav
    have hle := avail_le ns ys
    obtain ⟨b0, b1, b2, b3, hbs⟩ : ∃ b0 b1 b2 b3, ys.take 4 = [b0, b1, b2, b3] := by
      have hl : (ys.take 4).length = 4 := by rw [List.length_take]; omega
      exact list4' _ hl
    have HBs := Lib.hid hbs
    clear hav hle hbs
    go_enter Try.func87, Try.ntmps87
    go_wp2_with fail
    refine HF.out.mono ?_
    rintro e w2 hpost
    obtain ⟨rfl, g1, hr2, hb2⟩ := fullpost_ok hpost HA.out
    rw [HBs.out] at g1
    rw [← hr1] at hr2
    have r2 := Lib.hid hr2
    have p2 := hb2.blk hp0 HGS.out
    have bw : But w w2 (pb :: S) := hbut0.weaken hb2 (fun x hx => by
      rcases List.mem_cons.1 hx with e | e
      · exact .inr (by omega)
      · exact .inl (List.mem_cons_of_mem _ e))
    have yy0 : w2.cell? ⟨pb, q, none⟩ = some old := by rw [p2.cell]; exact hq
    have yy1 := p2.frozen q
    have x0 : w2.cell? ⟨w.heap.size, 0, none⟩ = some (.int .u8 b0.toNat) := by rw [g1.cell]; rfl
    have x1 : w2.cell? ⟨w.heap.size, 1, none⟩ = some (.int .u8 b1.toNat) := by rw [g1.cell]; rfl
    have x2 : w2.cell? ⟨w.heap.size, 2, none⟩ = some (.int .u8 b2.toNat) := by rw [g1.cell]; rfl
    have x3 : w2.cell? ⟨w.heap.size, 3, none⟩ = some (.int .u8 b3.toNat) := by rw [g1.cell]; rfl
    clear hpost hr2 hb2
    have hb := be32_any (w := w2) (g := w.heap.size) (o := 0) (m := 4) (c := 4) b0 b1 b2 b3 (by omega) x0 x1 x2 x3
    obtain ⟨N, hN⟩ : ∃ N : Nat, N = b0.toNat * 16777216 + b1.toNat * 65536 + b2.toNat * 256 + b3.toNat := ⟨_, rfl⟩
    rw [← hN] at hb
    have HN := Lib.hid hN
    clear hN
    have hfb32 := fun w => frombits32 (N : Int) (by omega) w
    have hfb64 := fun w => frombits64 (N : Int) (by omega) w
    simp only [Int.toNat_natCast] at hfb32 hfb64
    have HBE := Lib.hid hb
    clear hb x0 x1 x2 x3
    go_wp2_with fail
    refine HBE.out.mono ?_
    rintro e w3 ⟨rfl, nd, hw3⟩
    have p3 : Blk w3 pb T cs := by rw [hw3]; exact p2
    have r3 : Rr w3 B r0 (ns.map (· - 4)) (ys.drop 4) S R := by rw [hw3]; exact r2.out.drewN _
    have u3 : But w w3 (pb :: S) := by rw [hw3]; exact bw.drewN _
    have y0 : w3.cell? ⟨pb, q, none⟩ = some old := by rw [p3.cell]; exact hq
    have y1 := p3.frozen q
    clear hw3 yy0 yy1
    go_wp2_with fail
    go_ret
    refine .inl ⟨HA.out, rfl, ?_, ?_, ?_⟩
    · rw [HBs.out]
      have hn : num [b0, b1, b2, b3] = N := by rw [HN.out]; simp only [num, List.foldl]; omega
      simpa [hn, IntWalk.i32_left, IntWalk.i64_left] using (p3).set_ q (.int .i32 (IntKind.i32.wrap (((N : Nat) : Int))))
    · rw [← hr1]
      exact (r3).store HPS.out HPR.out _ _
    · exact u3.setCell (.inl (by simp)) _
  · have hsh : avail ns ys < 4 := by omega
    have HA := Lib.hid hsh
    clear hav hsh
    go_enter Try.func87, Try.ntmps87
    go_wp2_with fail
    refine HF.out.mono ?_
    rintro e w2 hpost
    obtain ⟨k, s, rfl, hz, hrj, hb2⟩ := fullpost_short hpost HA.out
    have HZ := Lib.hid hz
    have HRJ := Lib.hid hrj
    have p2 := hb2.blk hp0 HGS.out
    have bw : But w w2 (pb :: S) := hbut0.weaken hb2 (fun x hx => by
      rcases List.mem_cons.1 hx with e | e
      · exact .inr (by omega)
      · exact .inl (List.mem_cons_of_mem _ e))
    have hen := fun w => eof_nil s w
    clear hpost hz hrj hb2
    go_wp2_with fail
    go_ret
    exact .inr ⟨HA.out, s, rfl, p2, HZ.out, HRJ.out, bw⟩


set_option maxRecDepth 100000 in
set_option maxHeartbeats 4000000 in
theorem rf_193 {w : World} {B : Nat} {r : Value} {ns : List Nat} {ys : List UInt8} {S : List Nat} {R : Option Nat} {pb q : Nat} {T : TypeId} {cs : Array Value} {old : Value} (h : Rr w B r ns ys S R) (hs : Small ns) (hys : ys.length ≤ 1000000000) (hp : Blk w pb T cs) (hq : cs[q]? = some old) (_hold : old.oneCell' = true)
    (hpS : pb ∉ S) (hpR : R ≠ some pb) (hRl : ∀ x, R = some x → x < w.heap.size) (hB : B ≤ w.heap.size) :
    Calls Try.prog 87 #[r, .iface 193 (.pointer (some ⟨pb, q, none⟩))] w (FixPost w B r ns ys S R pb q T cs 4 (fun l => .float .f32 (num l))) := by
  obtain ⟨T0, a0, hr0⟩ := h.shape
  obtain ⟨r0, hr1⟩ : ∃ r0, r0 = r := ⟨_, rfl⟩
  have hpl := hp.lt
  have hfull := readFull_any (w := w.alloc (.cells #[.int .u8 0, .int .u8 0, .int .u8 0, .int .u8 0] 5)) (g := w.heap.size) (o := 0) (m := 4) (c := 4) (cs := #[.int .u8 0, .int .u8 0, .int .u8 0, .int .u8 0]) (h.alloc hB _ hRl) hs (Blk.new w 5 _) hB (Nat.le_refl _) (by omega) (by simp) hys
  have HF := Lib.hid hfull
  have HPS := Lib.hid hpS
  have HPR := Lib.hid hpR
  have HL := Lib.hid (h.lt)
  have HRL := Lib.hid hRl
  have hp0 := hp.alloc (.cells #[.int .u8 0, .int .u8 0, .int .u8 0, .int .u8 0] 5)
  have hbut0 : But w (w.alloc (.cells #[.int .u8 0, .int .u8 0, .int .u8 0, .int .u8 0] 5)) (pb :: S) := (But.refl _ _).alloc _
  have hgS : pb ∉ w.heap.size :: S := by
    intro hm
    rcases List.mem_cons.1 hm with e | e
    · omega
    · exact hpS e
  have HGS := Lib.hid hgS
  subst hr0
  clear h hfull hpS hpR hRl hgS
  by_cases hav : 4 ≤ avail ns ys
  · have HA := Lib.hid hav
    have hle := avail_le ns ys
    obtain ⟨b0, b1, b2, b3, hbs⟩ : ∃ b0 b1 b2 b3, ys.take 4 = [b0, b1, b2, b3] := by
      have hl : (ys.take 4).length = 4 := by rw [List.length_take]; omega
      exact list4' _ hl
    have HBs := Lib.hid hbs
    clear hav hle hbs
    go_enter Try.func87, Try.ntmps87
    go_wp2_with fail
    refine HF.out.mono ?_
    rintro e w2 hpost
    obtain ⟨rfl, g1, hr2, hb2⟩ := fullpost_ok hpost HA.out
    rw [HBs.out] at g1
    rw [← hr1] at hr2
    have r2 := Lib.hid hr2
    have p2 := hb2.blk hp0 HGS.out
    have bw : But w w2 (pb :: S) := hbut0.weaken hb2 (fun x hx => by
      rcases List.mem_cons.1 hx with e | e
      · exact .inr (by omega)
      · exact .inl (List.mem_cons_of_mem _ e))
    have yy0 : w2.cell? ⟨pb, q, none⟩ = some old := by rw [p2.cell]; exact hq
    have yy1 := p2.frozen q
    have x0 : w2.cell? ⟨w.heap.size, 0, none⟩ = some (.int .u8 b0.toNat) := by rw [g1.cell]; rfl
    have x1 : w2.cell? ⟨w.heap.size, 1, none⟩ = some (.int .u8 b1.toNat) := by rw [g1.cell]; rfl
    have x2 : w2.cell? ⟨w.heap.size, 2, none⟩ = some (.int .u8 b2.toNat) := by rw [g1.cell]; rfl
    have x3 : w2.cell? ⟨w.heap.size, 3, none⟩ = some (.int .u8 b3.toNat) := by rw [g1.cell]; rfl
    clear hpost hr2 hb2
    have hb := be32_any (w := w2) (g := w.heap.size) (o := 0) (m := 4) (c := 4) b0 b1 b2 b3 (by omega) x0 x1 x2 x3
    obtain ⟨N, hN⟩ : ∃ N : Nat, N = b0.toNat * 16777216 + b1.toNat * 65536 + b2.toNat * 256 + b3.toNat := ⟨_, rfl⟩
    rw [← hN] at hb
    have HN := Lib.hid hN
    clear hN
    have hfb32 := fun w => frombits32 (N : Int) (by omega) w
    have hfb64 := fun w => frombits64 (N : Int) (by omega) w
    simp only [Int.toNat_natCast] at hfb32 hfb64
    have HBE := Lib.hid hb
    clear hb x0 x1 x2 x3
    go_wp2_with fail
    refine HBE.out.mono ?_
    rintro e w3 ⟨rfl, nd, hw3⟩
    have p3 : Blk w3 pb T cs := by rw [hw3]; exact p2
    have r3 : Rr w3 B r0 (ns.map (· - 4)) (ys.drop 4) S R := by rw [hw3]; exact r2.out.drewN _
    have u3 : But w w3 (pb :: S) := by rw [hw3]; exact bw.drewN _
    have y0 : w3.cell? ⟨pb, q, none⟩ = some old := by rw [p3.cell]; exact hq
    have y1 := p3.frozen q
    clear hw3 yy0 yy1
    go_wp2_with fail
    go_ret
    refine .inl ⟨HA.out, rfl, ?_, ?_, ?_⟩
    · rw [HBs.out]
      have hn : num [b0, b1, b2, b3] = N := by rw [HN.out]; simp only [num, List.foldl]; omega
      simpa [hn, IntWalk.i32_left, IntWalk.i64_left] using (p3).set_ q (.float .f32 (N))
    · rw [← hr1]
      exact (r3).store HPS.out HPR.out _ _
    · exact u3.setCell (.inl (by simp)) _
  · have hsh : avail ns ys < 4 := by omega
    have HA := Lib.hid hsh
    clear hav hsh
    go_enter Try.func87, Try.ntmps87
    go_wp2_with fail
    refine HF.out.mono ?_
    rintro e w2 hpost
    obtain ⟨k, s, rfl, hz, hrj, hb2⟩ := fullpost_short hpost HA.out
    have HZ := Lib.hid hz
    have HRJ := Lib.hid hrj
    have p2 := hb2.blk hp0 HGS.out
    have bw : But w w2 (pb :: S) := hbut0.weaken hb2 (fun x hx => by
      rcases List.mem_cons.1 hx with e | e
      · exact .inr (by omega)
      · exact .inl (List.mem_cons_of_mem _ e))
    have hen := fun w => eof_nil s w
    clear hpost hz hrj hb2
    go_wp2_with fail
    go_ret
    exact .inr ⟨HA.out, s, rfl, p2, HZ.out, HRJ.out, bw⟩


set_option maxRecDepth 100000 in
set_option maxHeartbeats 4000000 in
theorem rf_191 {w : World} {B : Nat} {r : Value} {ns : List Nat} {ys : List UInt8} {S : List Nat} {R : Option Nat} {pb q : Nat} {T : TypeId} {cs : Array Value} {old : Value} (h : Rr w B r ns ys S R) (hs : Small ns) (hys : ys.length ≤ 1000000000) (hp : Blk w pb T cs) (hq : cs[q]? = some old) (_hold : old.oneCell' = true)
    (hpS : pb ∉ S) (hpR : R ≠ some pb) (hRl : ∀ x, R = some x → x < w.heap.size) (hB : B ≤ w.heap.size) :
    Calls Try.prog 87 #[r, .iface 191 (.pointer (some ⟨pb, q, none⟩))] w (FixPost w B r ns ys S R pb q T cs 8 (fun l => .int .i64 (IntKind.i64.wrap (num l)))) := by
  obtain ⟨T0, a0, hr0⟩ := h.shape
  obtain ⟨r0, hr1⟩ : ∃ r0, r0 = r := ⟨_, rfl⟩
  have hpl := hp.lt
  have hfull := readFull_any (w := w.alloc (.cells #[.int .u8 0, .int .u8 0, .int .u8 0, .int .u8 0, .int .u8 0, .int .u8 0, .int .u8 0, .int .u8 0] 5)) (g := w.heap.size) (o := 0) (m := 8) (c := 8) (cs := #[.int .u8 0, .int .u8 0, .int .u8 0, .int .u8 0, .int .u8 0, .int .u8 0, .int .u8 0, .int .u8 0]) (h.alloc hB _ hRl) hs (Blk.new w 5 _) hB (Nat.le_refl _) (by omega) (by simp) hys
  have HF := Lib.hid hfull
  have HPS := Lib.hid hpS
  have HPR := Lib.hid hpR
  have HL := Lib.hid (h.lt)
  have HRL := Lib.hid hRl
  have hp0 := hp.alloc (.cells #[.int .u8 0, .int .u8 0, .int .u8 0, .int .u8 0, .int .u8 0, .int .u8 0, .int .u8 0, .int .u8 0] 5)
  have hbut0 : But w (w.alloc (.cells #[.int .u8 0, .int .u8 0, .int .u8 0, .int .u8 0, .int .u8 0, .int .u8 0, .int .u8 0, .int .u8 0] 5)) (pb :: S) := (But.refl _ _).alloc _
  have hgS : pb ∉ w.heap.size :: S := by
    intro hm
    rcases List.mem_cons.1 hm with e | e
    · omega
    · exact hpS e
  have HGS := Lib.hid hgS
  subst hr0
  clear h hfull hpS hpR hRl hgS
  by_cases hav : 8 ≤ avail ns ys
  · have HA := Lib.hid hav
    have hle := avail_le ns ys
    obtain ⟨b0, b1, b2, b3, b4, b5, b6, b7, hbs⟩ : ∃ b0 b1 b2 b3 b4 b5 b6 b7, ys.take 8 = [b0, b1, b2, b3, b4, b5, b6, b7] := by
      have hl : (ys.take 8).length = 8 := by rw [List.length_take]; omega
      exact list8' _ hl
    have HBs := Lib.hid hbs
    clear hav hle hbs
    go_enter Try.func87, Try.ntmps87
    go_wp2_with fail
    refine HF.out.mono ?_
    rintro e w2 hpost
    obtain ⟨rfl, g1, hr2, hb2⟩ := fullpost_ok hpost HA.out
    rw [HBs.out] at g1
    rw [← hr1] at hr2
    have r2 := Lib.hid hr2
    have p2 := hb2.blk hp0 HGS.out
    have bw : But w w2 (pb :: S) := hbut0.weaken hb2 (fun x hx => by
      rcases List.mem_cons.1 hx with e | e
      · exact .inr (by omega)
      · exact .inl (List.mem_cons_of_mem _ e))
    have yy0 : w2.cell? ⟨pb, q, none⟩ = some old := by rw [p2.cell]; exact hq
    have yy1 := p2.frozen q
    have x0 : w2.cell? ⟨w.heap.size, 0, none⟩ = some (.int .u8 b0.toNat) := by rw [g1.cell]; rfl
    have x1 : w2.cell? ⟨w.heap.size, 1, none⟩ = some (.int .u8 b1.toNat) := by rw [g1.cell]; rfl
    have x2 : w2.cell? ⟨w.heap.size, 2, none⟩ = some (.int .u8 b2.toNat) := by rw [g1.cell]; rfl
    have x3 : w2.cell? ⟨w.heap.size, 3, none⟩ = some (.int .u8 b3.toNat) := by rw [g1.cell]; rfl
    have x4 : w2.cell? ⟨w.heap.size, 4, none⟩ = some (.int .u8 b4.toNat) := by rw [g1.cell]; rfl
    have x5 : w2.cell? ⟨w.heap.size, 5, none⟩ = some (.int .u8 b5.toNat) := by rw [g1.cell]; rfl
    have x6 : w2.cell? ⟨w.heap.size, 6, none⟩ = some (.int .u8 b6.toNat) := by rw [g1.cell]; rfl
    have x7 : w2.cell? ⟨w.heap.size, 7, none⟩ = some (.int .u8 b7.toNat) := by rw [g1.cell]; rfl
    clear hpost hr2 hb2
    have hb := be64_any (w := w2) (g := w.heap.size) (o := 0) (m := 8) (c := 8) b0 b1 b2 b3 b4 b5 b6 b7 (by omega) (by omega) x0 x1 x2 x3 x4 x5 x6 x7
    obtain ⟨N, hN⟩ : ∃ N : Nat, N = num [b0, b1, b2, b3, b4, b5, b6, b7] := ⟨_, rfl⟩
    rw [← hN] at hb
    have HN := Lib.hid hN
    clear hN
    have hfb32 := fun w => frombits32 (N : Int) (by omega) w
    have hfb64 := fun w => frombits64 (N : Int) (by omega) w
    simp only [Int.toNat_natCast] at hfb32 hfb64
    have HBE := Lib.hid hb
    clear hb x0 x1 x2 x3 x4 x5 x6 x7
    go_wp2_with fail
    refine HBE.out.mono ?_
    rintro e w3 ⟨rfl, nd, hw3⟩
    have p3 : Blk w3 pb T cs := by rw [hw3]; exact p2
    have r3 : Rr w3 B r0 (ns.map (· - 8)) (ys.drop 8) S R := by rw [hw3]; exact r2.out.drewN _
    have u3 : But w w3 (pb :: S) := by rw [hw3]; exact bw.drewN _
    have y0 : w3.cell? ⟨pb, q, none⟩ = some old := by rw [p3.cell]; exact hq
    have y1 := p3.frozen q
    clear hw3 yy0 yy1
    go_wp2_with fail
    go_ret
    refine .inl ⟨HA.out, rfl, ?_, ?_, ?_⟩
    · rw [HBs.out]
      have hn : num [b0, b1, b2, b3, b4, b5, b6, b7] = N := by rw [HN.out]
      simpa [hn, IntWalk.i32_left, IntWalk.i64_left] using (p3).set_ q (.int .i64 (IntKind.i64.wrap (((N : Nat) : Int))))
    · rw [← hr1]
      exact (r3).store HPS.out HPR.out _ _
    · exact u3.setCell (.inl (by simp)) _
  · have hsh : avail ns ys < 8 := by omega
    have HA := Lib.hid hsh
    clear hav hsh
    go_enter Try.func87, Try.ntmps87
    go_wp2_with fail
    refine HF.out.mono ?_
    rintro e w2 hpost
    obtain ⟨k, s, rfl, hz, hrj, hb2⟩ := fullpost_short hpost HA.out
    have HZ := Lib.hid hz
    have HRJ := Lib.hid hrj
    have p2 := hb2.blk hp0 HGS.out
    have bw : But w w2 (pb :: S) := hbut0.weaken hb2 (fun x hx => by
      rcases List.mem_cons.1 hx with e | e
      · exact .inr (by omega)
      · exact .inl (List.mem_cons_of_mem _ e))
    have hen := fun w => eof_nil s w
    clear hpost hz hrj hb2
    go_wp2_with fail
    go_ret
    exact .inr ⟨HA.out, s, rfl, p2, HZ.out, HRJ.out, bw⟩


set_option maxRecDepth 100000 in
set_option maxHeartbeats 4000000 in
theorem rf_194 {w : World} {B : Nat} {r : Value} {ns : List Nat} {ys : List UInt8} {S : List Nat} {R : Option Nat} {pb q : Nat} {T : TypeId} {cs : Array Value} {old : Value} (h : Rr w B r ns ys S R) (hs : Small ns) (hys : ys.length ≤ 1000000000) (hp : Blk w pb T cs) (hq : cs[q]? = some old) (_hold : old.oneCell' = true)
    (hpS : pb ∉ S) (hpR : R ≠ some pb) (hRl : ∀ x, R = some x → x < w.heap.size) (hB : B ≤ w.heap.size) :
    Calls Try.prog 87 #[r, .iface 194 (.pointer (some ⟨pb, q, none⟩))] w (FixPost w B r ns ys S R pb q T cs 8 (fun l => .float .f64 (num l))) := by
  obtain ⟨T0, a0, hr0⟩ := h.shape
  obtain ⟨r0, hr1⟩ : ∃ r0, r0 = r := ⟨_, rfl⟩
  have hpl := hp.lt
  have hfull := readFull_any (w := w.alloc (.cells #[.int .u8 0, .int .u8 0, .int .u8 0, .int .u8 0, .int .u8 0, .int .u8 0, .int .u8 0, .int .u8 0] 5)) (g := w.heap.size) (o := 0) (m := 8) (c := 8) (cs := #[.int .u8 0, .int .u8 0, .int .u8 0, .int .u8 0, .int .u8 0, .int .u8 0, .int .u8 0, .int .u8 0]) (h.alloc hB _ hRl) hs (Blk.new w 5 _) hB (Nat.le_refl _) (by omega) (by simp) hys
  have HF := Lib.hid hfull
  have HPS := Lib.hid hpS
  have HPR := Lib.hid hpR
  have HL := Lib.hid (h.lt)
  have HRL := Lib.hid hRl
  have hp0 := hp.alloc (.cells #[.int .u8 0, .int .u8 0, .int .u8 0, .int .u8 0, .int .u8 0, .int .u8 0, .int .u8 0, .int .u8 0] 5)
  have hbut0 : But w (w.alloc (.cells #[.int .u8 0, .int .u8 0, .int .u8 0, .int .u8 0, .int .u8 0, .int .u8 0, .int .u8 0, .int .u8 0] 5)) (pb :: S) := (But.refl _ _).alloc _
  have hgS : pb ∉ w.heap.size :: S := by
    intro hm
    rcases List.mem_cons.1 hm with e | e
    · omega
    · exact hpS e
  have HGS := Lib.hid hgS
  subst hr0
  clear h hfull hpS hpR hRl hgS
  by_cases hav : 8 ≤ avail ns ys
  · have HA := Lib.hid hav
    have hle := avail_le ns ys
    obtain ⟨b0, b1, b2, b3, b4, b5, b6, b7, hbs⟩ : ∃ b0 b1 b2 b3 b4 b5 b6 b7, ys.take 8 = [b0, b1, b2, b3, b4, b5, b6, b7] := by
      have hl : (ys.take 8).length = 8 := by rw [List.length_take]; omega
      exact list8' _ hl
    have HBs := Lib.hid hbs
    clear hav hle hbs
    go_enter Try.func87, Try.ntmps87
    go_wp2_with fail
    refine HF.out.mono ?_
    rintro e w2 hpost
    obtain ⟨rfl, g1, hr2, hb2⟩ := fullpost_ok hpost HA.out
    rw [HBs.out] at g1
    rw [← hr1] at hr2
    have r2 := Lib.hid hr2
    have p2 := hb2.blk hp0 HGS.out
    have bw : But w w2 (pb :: S) := hbut0.weaken hb2 (fun x hx => by
      rcases List.mem_cons.1 hx with e | e
      · exact .inr (by omega)
      · exact .inl (List.mem_cons_of_mem _ e))
    have yy0 : w2.cell? ⟨pb, q, none⟩ = some old := by rw [p2.cell]; exact hq
    have yy1 := p2.frozen q
    have x0 : w2.cell? ⟨w.heap.size, 0, none⟩ = some (.int .u8 b0.toNat) := by rw [g1.cell]; rfl
    have x1 : w2.cell? ⟨w.heap.size, 1, none⟩ = some (.int .u8 b1.toNat) := by rw [g1.cell]; rfl
    have x2 : w2.cell? ⟨w.heap.size, 2, none⟩ = some (.int .u8 b2.toNat) := by rw [g1.cell]; rfl
    have x3 : w2.cell? ⟨w.heap.size, 3, none⟩ = some (.int .u8 b3.toNat) := by rw [g1.cell]; rfl
    have x4 : w2.cell? ⟨w.heap.size, 4, none⟩ = some (.int .u8 b4.toNat) := by rw [g1.cell]; rfl
    have x5 : w2.cell? ⟨w.heap.size, 5, none⟩ = some (.int .u8 b5.toNat) := by rw [g1.cell]; rfl
    have x6 : w2.cell? ⟨w.heap.size, 6, none⟩ = some (.int .u8 b6.toNat) := by rw [g1.cell]; rfl
    have x7 : w2.cell? ⟨w.heap.size, 7, none⟩ = some (.int .u8 b7.toNat) := by rw [g1.cell]; rfl
    clear hpost hr2 hb2
    have hb := be64_any (w := w2) (g := w.heap.size) (o := 0) (m := 8) (c := 8) b0 b1 b2 b3 b4 b5 b6 b7 (by omega) (by omega) x0 x1 x2 x3 x4 x5 x6 x7
    obtain ⟨N, hN⟩ : ∃ N : Nat, N = num [b0, b1, b2, b3, b4, b5, b6, b7] := ⟨_, rfl⟩
    rw [← hN] at hb
    have HN := Lib.hid hN
    clear hN
    have hfb32 := fun w => frombits32 (N : Int) (by omega) w
    have hfb64 := fun w => frombits64 (N : Int) (by omega) w
    simp only [Int.toNat_natCast] at hfb32 hfb64
    have HBE := Lib.hid hb
    clear hb x0 x1 x2 x3 x4 x5 x6 x7
    go_wp2_with fail
    refine HBE.out.mono ?_
    rintro e w3 ⟨rfl, nd, hw3⟩
    have p3 : Blk w3 pb T cs := by rw [hw3]; exact p2
    have r3 : Rr w3 B r0 (ns.map (· - 8)) (ys.drop 8) S R := by rw [hw3]; exact r2.out.drewN _
    have u3 : But w w3 (pb :: S) := by rw [hw3]; exact bw.drewN _
    have y0 : w3.cell? ⟨pb, q, none⟩ = some old := by rw [p3.cell]; exact hq
    have y1 := p3.frozen q
    clear hw3 yy0 yy1
    go_wp2_with fail
    go_ret
    refine .inl ⟨HA.out, rfl, ?_, ?_, ?_⟩
    · rw [HBs.out]
      have hn : num [b0, b1, b2, b3, b4, b5, b6, b7] = N := by rw [HN.out]
      simpa [hn, IntWalk.i32_left, IntWalk.i64_left] using (p3).set_ q (.float .f64 (N))
    · rw [← hr1]
      exact (r3).store HPS.out HPR.out _ _
    · exact u3.setCell (.inl (by simp)) _
  · have hsh : avail ns ys < 8 := by omega
    have HA := Lib.hid hsh
    clear hav hsh
    go_enter Try.func87, Try.ntmps87
    go_wp2_with fail
    refine HF.out.mono ?_
    rintro e w2 hpost
    obtain ⟨k, s, rfl, hz, hrj, hb2⟩ := fullpost_short hpost HA.out
    have HZ := Lib.hid hz
    have HRJ := Lib.hid hrj
    have p2 := hb2.blk hp0 HGS.out
    have bw : But w w2 (pb :: S) := hbut0.weaken hb2 (fun x hx => by
      rcases List.mem_cons.1 hx with e | e
      · exact .inr (by omega)
      · exact .inl (List.mem_cons_of_mem _ e))
    have hen := fun w => eof_nil s w
    clear hpost hz hrj hb2
    go_wp2_with fail
    go_ret
    exact .inr ⟨HA.out, s, rfl, p2, HZ.out, HRJ.out, bw⟩

end Go.Proofs.Ytkcdakohmfodjaa
