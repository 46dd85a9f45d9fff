/-
  FnMethod: ZZMethod's switch: a walk over an act whose slots are known by a list alone.
-/
import Derived.Test.YtabeppaehenefaaGreatOa
namespace Go.Proofs.YtabeppaehenefaaGreat
open Go.RowKit

/-- what is known of an act of ZZMethod: these slots -/
structure Env (a : Act) (f : List (Nat × Value)) : Prop where
  size : a.tmps.size = 982
  defers : a.defers = []
  all : ∀ x ∈ f, a.eval (.tmp x.1) = x.2

theorem eval_put (a : Act) (d i : Nat) (v : Value) (hd : d < a.tmps.size) : (a.put (some d) v).eval (.tmp i) = if i = d then v else a.eval (.tmp i) := by
  simp only [Act.put, Act.eval, Array.getD_eq_getD_getElem?, Array.getElem?_setIfInBounds]
  by_cases h : d = i
  · subst h
    simp [hd]
  · have h' : ¬ i = d := fun e => h e.symm
    simp [h, h']
theorem Env.get {a : Act} {f : List (Nat × Value)} {i : Nat} {v : Value} (h : Env a f) (hi : f.find? (fun x => x.1 == i) = some (i, v)) : a.eval (.tmp i) = v := h.all (i, v) (List.mem_of_find?_eq_some hi)
theorem Env.put {a : Act} {f : List (Nat × Value)} {d : Nat} {v : Value} (h : Env a f) (hd : d < 982) (hf : f.all (fun x => x.1 != d) = true) : Env (a.put (some d) v) ((d, v) :: f) := by
  have hs := h.size
  refine ⟨by simpa [Act.put] using hs, h.defers, fun x hx => ?_⟩
  rw [eval_put a d x.1 v (by omega)]
  rcases List.mem_cons.1 hx with rfl | hx
  · simp
  · have := List.all_eq_true.1 hf x hx
    have hne : ¬ x.1 = d := by simpa using this
    rw [if_neg hne]
    exact h.all x hx
theorem Env.sub {a : Act} {f g : List (Nat × Value)} (h : Env a f) (hg : ∀ x ∈ g, x ∈ f) : Env a g := ⟨h.size, h.defers, fun x hx => h.all x (hg x hx)⟩
section
variable {P : Program} {ops : Array Oper} {a : Act} {w w' : World} {f : List (Nat × Value)} {d : Nat} {v : Value} {op : Op} {ty : TypeId} {pos : String} {af : Array Edge} {rest : List Oper}
theorem wanted_none {d : Option Tmp} {y : Nat → Option Bool} : Region.wanted ⟨d, op, ty, pos, af, none⟩ y = true := by simp [Region.wanted]
theorem st_op {Q : Act → Prop} (E : Env a f) (hv : (execOp a.eval ⟨some d, op, ty, pos, af, none⟩).run P w = .ok (.value v) w) (hd : d < 982) (hf : f.all (fun x => x.1 != d) = true)
    (k : ∀ a', Env a' ((d, v) :: f) → wpStill P ops w Q rest a') : wpStill P ops w Q (⟨some d, op, ty, pos, af, none⟩ :: rest) a := by
  rw [wpStill, if_pos wanted_none]
  unfold Oper.still
  rw [hv, Oper.stillUpon_value]
  exact k _ (E.put hd hf)
theorem lt_op {Q : Exit → Act → World → Prop} (E : Env a f) (hv : (execOp a.eval ⟨some d, op, ty, pos, af, none⟩).run P w = .ok (.value v) w') (hd : d < 982) (hf : f.all (fun x => x.1 != d) = true)
    (k : ∀ a', Env a' ((d, v) :: f) → wpList P ops Q rest a' w') : wpList P ops Q (⟨some d, op, ty, pos, af, none⟩ :: rest) a w := by
  rw [wpList, if_pos wanted_none]
  left
  unfold Oper.wp
  rw [hv]
  exact k _ (E.put hd hf)
end

section
variable {a : Act} {w : World} {d : Option Tmp} {ty : TypeId} {pos : String} {af : Array Edge} {g : Option (Nat × Bool)} {x : Operand} {v : Value}
theorem op_move (h : a.eval x = v) : (execOp a.eval ⟨d, .move x, ty, pos, af, g⟩).run Tryz.prog w = .ok (.value v) w := by simp [execOp, h]
theorem op_assign (h : a.eval x = v) : (execOp a.eval ⟨d, .assign x, ty, pos, af, g⟩).run Tryz.prog w = .ok (.value v) w := by simp [execOp, h]
theorem size60 : (sizeOf (Tryz.prog.elem 54)).run Tryz.prog w = .ok 4 w := by kernel_rfl
theorem op_index {r n c : Nat} (m : Nat) (h : a.eval x = .slice (some ⟨r, 0, none⟩) n c) (hm : m < n) : (execOp a.eval ⟨d, .indexAddr 54 x (.const (.int .i64 m)), ty, pos, af, g⟩).run Tryz.prog w = .ok (.value (.pointer (some ⟨r, m * 4, none⟩))) w := by
  have e : a.eval (.const (.int .i64 m)) = .int .i64 m := rfl
  have h1 : (0 : Int) ≤ (m : Int) ∧ (m : Int) < (n : Int) := by omega
  have ha : (⟨r, 0, none⟩ : Addr).add (m * 4) = ⟨r, m * 4, none⟩ := by unfold Addr.add; split <;> simp_all
  simp only [execOp, h, e]
  rw [Sem.run_bind, run_indexAt_slice (h := by kernel_rfl), if_pos h1, size60]
  simp [ha]
theorem op_field {r o : Nat} (j : Nat) (hj : j = 1 ∨ j = 2 ∨ j = 3) (h : a.eval x = .pointer (some ⟨r, o, none⟩)) : (execOp a.eval ⟨d, .fieldAddr 60 x j, ty, pos, af, g⟩).run Tryz.prog w = .ok (.value (.pointer (some ⟨r, o + j, none⟩))) w := by
  simp only [execOp, h]
  rcases hj with rfl | rfl | rfl <;> go_simp
theorem op_load {p : Addr} (t : TypeId) (ht : t = 38 ∨ t = 9 ∨ t = 56) (h : a.eval x = .pointer (some p)) (hc : w.cell? p = some v) : (execOp a.eval ⟨d, .load t x, ty, pos, af, g⟩).run Tryz.prog w = .ok (.value v) w := by
  simp only [execOp, h]
  rcases ht with rfl | rfl | rfl <;> go_simp
theorem op_conv (t : TypeId) (k : IntKind) (m n : Nat) (hk : (t, k, m) = (5, .u8, 256) ∨ (t, k, m) = (51, .u16, 65536) ∨ (t, k, m) = (114, .u32, 4294967296)) (h : a.eval x = .int .u64 n) (hn : n < m) : (execOp a.eval ⟨d, .convert 38 t x, ty, pos, af, g⟩).run Tryz.prog w = .ok (.value (.int k n)) w := by
  simp only [execOp, h]
  simp only [Prod.mk.injEq] at hk
  rcases hk with ⟨rfl, rfl, rfl⟩ | ⟨rfl, rfl, rfl⟩ | ⟨rfl, rfl, rfl⟩
  · go_simp
    simp [IntKind.wrap, IntKind.bits, IntKind.signed]
    omega
  · go_simp
    simp [IntKind.wrap, IntKind.bits, IntKind.signed]
    omega
  · go_simp
    simp [IntKind.wrap, IntKind.bits, IntKind.signed]
    omega
theorem op_ne {n : Int} {yt : TypeId} (h : a.eval x = .int .u64 n) : (execOp a.eval ⟨d, .binOp .neq 38 x (.const (.int .u64 0)) yt, ty, pos, af, g⟩).run Tryz.prog w = .ok (.value (.bool (n != 0))) w := by
  have e : a.eval (.const (.int .u64 0)) = .int .u64 0 := rfl
  simp only [execOp, h, e]
  go_simp
theorem op_build (t : TypeId) {parts : Array (Nat × Operand)} (vals : Array (Nat × Value)) {cells : Array Value} (hp : parts.map (fun z => (z.1, a.eval z.2)) = vals) (hb : Tryz.prog.built t vals.toList = some cells) : (execOp a.eval ⟨d, .build t parts, ty, pos, af, g⟩).run Tryz.prog w = .ok (.value (.agg cells)) w := by
  have := run_build w t vals cells hb
  simp only [execOp, Sem.run_bind]
  rw [show (parts.map fun (i, x) => (i, a.eval x)) = vals from hp, this]
  rfl
theorem op_box (t : TypeId) {cells : Array Value} (h : a.eval x = .agg cells) (ht : (Instr.box t (.agg cells)).run Tryz.prog w = .ok (.pointer (some ⟨w.heap.size, 0, none⟩)) (w.alloc (.cells cells t))) :
    (execOp a.eval ⟨d, .box t x, ty, pos, af, g⟩).run Tryz.prog w = .ok (.value (.pointer (some ⟨w.heap.size, 0, none⟩))) (w.alloc (.cells cells t)) := by
  simp only [execOp, h, Sem.run_bind]
  rw [ht]
  rfl
theorem op_iface (t : TypeId) (h : a.eval x = v) (ht : Tryz.prog.concrete t = true) : (execOp a.eval ⟨d, .makeInterface t x, ty, pos, af, g⟩).run Tryz.prog w = .ok (.value (.iface t v)) w := by
  simp only [execOp, h, Sem.run_bind]
  rw [run_makeInterface w t v ht]
  rfl
end

end Go.Proofs.YtabeppaehenefaaGreat
