/-
  The statement's table of bounds: a map literal.
-/
import Derived.Test.YtabeppaehenefaaGreatProp
import Derived.WideMake
namespace Go.Proofs.YtabeppaehenefaaGreat
open Go.RowKit

theorem under114 : Tryz.prog.underlying 302 = some (.map 5 301) := by kernel_rfl
theorem under5' : Tryz.prog.underlying 5 = some (.int .u8) := by kernel_rfl
theorem zero113 (w : World) : (zeroValue 301).run Tryz.prog w = .ok (.int .u64 0) w := by kernel_rfl

theorem mapPut (w : World) (es : Array MapEntry) (c : Nat) (key : Int) (val : Value) (hf : Instr.findNow (.int .u8) (.int .u8 key) es.toList 0 = some none) :
    (Instr.mapUpdate 302 (.map (some w.heap.size)) (.int .u8 key) val).run Tryz.prog (w.alloc (.map es c)) = .ok () (w.alloc (.map (es.push { key := .int .u8 key, val := val, born := c }) (c + 1))) := by
  have hb : (w.alloc (.map es c)).heap[w.heap.size]? = some (.map es c) := heap_alloc_new w _
  have hc : ∀ e, (Instr.checkKey e 10000 5 (.int .u8 key)).run Tryz.prog (w.alloc (.map es c)) = .ok () (w.alloc (.map es c)) := fun e => MapKept.run_checkKey (k := .int .u8 key) under5' (by simp [MapKept.IsKey]) e 9999
  have hset : ∀ o, (w.heap.push (Obj.map es c)).setIfInBounds w.heap.size o = w.heap.push o := by
    intro o
    apply Array.ext_getElem?
    intro i
    rw [Array.getElem?_setIfInBounds, Array.getElem?_push, Array.getElem?_push]
    by_cases h : w.heap.size = i
    · subst h; simp
    · simp [h, Ne.symm h]
  simp [Instr.mapUpdate, run_underlying under114, MapKept.run_getObj_map hb, hc, MapKept.run_findKey under5' hf, MapKept.run_setObj_map _ hb, Result.andThen]
  unfold World.alloc
  simp only [hset]

def es1 : Array MapEntry := #[{ key := .int .u8 98, val := .int .u64 8, born := 0 }]
def es2 : Array MapEntry := #[{ key := .int .u8 98, val := .int .u64 8, born := 0 }, { key := .int .u8 115, val := .int .u64 16, born := 1 }]
def es3 : Array MapEntry := #[{ key := .int .u8 98, val := .int .u64 8, born := 0 }, { key := .int .u8 115, val := .int .u64 16, born := 1 }, { key := .int .u8 73, val := .int .u64 32, born := 2 }]
def es4 : Array MapEntry := #[{ key := .int .u8 98, val := .int .u64 8, born := 0 }, { key := .int .u8 115, val := .int .u64 16, born := 1 }, { key := .int .u8 73, val := .int .u64 32, born := 2 }, { key := .int .u8 68, val := .int .u64 32, born := 3 }]

theorem put1 (w : World) : (Instr.mapUpdate 302 (.map (some w.heap.size)) (.int .u8 98) (.int .u64 8)).run Tryz.prog (w.alloc (.map #[] 0)) = .ok () (w.alloc (.map es1 1)) := mapPut w #[] 0 98 _ (by rfl)
theorem put2 (w : World) : (Instr.mapUpdate 302 (.map (some w.heap.size)) (.int .u8 115) (.int .u64 16)).run Tryz.prog (w.alloc (.map es1 1)) = .ok () (w.alloc (.map es2 2)) := mapPut w es1 1 115 _ (by rfl)
theorem put3 (w : World) : (Instr.mapUpdate 302 (.map (some w.heap.size)) (.int .u8 73) (.int .u64 32)).run Tryz.prog (w.alloc (.map es2 2)) = .ok () (w.alloc (.map es3 3)) := mapPut w es2 2 73 _ (by rfl)
theorem put4 (w : World) : (Instr.mapUpdate 302 (.map (some w.heap.size)) (.int .u8 68) (.int .u64 32)).run Tryz.prog (w.alloc (.map es3 3)) = .ok () (w.alloc (.map es4 4)) := mapPut w es3 3 68 _ (by rfl)

def bitsOf (k : Int) : Nat := if k = 98 then 8 else if k = 115 then 16 else if k = 73 ∨ k = 68 then 32 else 0

theorem look (w : World) (k : Int) (x : Nat) (o : Option (Nat × Value)) (hf : Instr.findNow (.int .u8) (.int .u8 k) es4.toList 0 = some o) (hx : (match o with | some (_, v) => v | none => .int .u64 0) = .int .u64 x) :
    (Instr.lookup 302 (.map (some w.heap.size)) (.int .u8 k) false).run Tryz.prog (w.alloc (.map es4 4)) = .ok (.int .u64 x) (w.alloc (.map es4 4)) := by
  have hb : (w.alloc (.map es4 4)).heap[w.heap.size]? = some (.map es4 4) := heap_alloc_new w _
  have hc : ∀ e, (Instr.checkKey e 10000 5 (.int .u8 k)).run Tryz.prog (w.alloc (.map es4 4)) = .ok () (w.alloc (.map es4 4)) := fun e => MapKept.run_checkKey (k := .int .u8 k) under5' (by simp [MapKept.IsKey]) e 9999
  cases o with
  | none =>
    simp only at hx
    rw [← hx]
    simp [Instr.lookup, run_underlying under114, MapKept.run_getObj_map hb, hc, MapKept.run_findKey under5' hf, Result.andThen]
  | some p =>
    obtain ⟨i, v⟩ := p
    simp only at hx
    subst hx
    simp [Instr.lookup, run_underlying under114, MapKept.run_getObj_map hb, hc, MapKept.run_findKey under5' hf, Result.andThen]

theorem look_bits (w : World) (k : Int) : (Instr.lookup 302 (.map (some w.heap.size)) (.int .u8 k) false).run Tryz.prog (w.alloc (.map es4 4)) = .ok (.int .u64 (bitsOf k)) (w.alloc (.map es4 4)) := by
  by_cases h1 : k = 98
  · subst h1; exact look w 98 8 (some (0, .int .u64 8)) (by rfl) rfl
  by_cases h2 : k = 115
  · subst h2; exact look w 115 16 (some (1, .int .u64 16)) (by rfl) rfl
  by_cases h3 : k = 73
  · subst h3; exact look w 73 32 (some (2, .int .u64 32)) (by rfl) rfl
  by_cases h4 : k = 68
  · subst h4; exact look w 68 32 (some (3, .int .u64 32)) (by rfl) rfl
  · have : bitsOf k = 0 := by simp [bitsOf, h1, h2, h3, h4]
    rw [this]
    refine look w k 0 none ?_ rfl
    have b1 : (k == 98) = false := by simp [h1]
    have b2 : (k == 115) = false := by simp [h2]
    have b3 : (k == 73) = false := by simp [h3]
    have b4 : (k == 68) = false := by simp [h4]
    simp [es4, Instr.findNow, Instr.sameNow, b1, b2, b3, b4]

end Go.Proofs.YtabeppaehenefaaGreat
