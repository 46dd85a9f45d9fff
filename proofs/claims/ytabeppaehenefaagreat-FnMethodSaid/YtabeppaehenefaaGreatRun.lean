/-
  Straight code run at once: a function that says what a piece of code without calls, loops and draws comes to, and that the code comes to that.
-/
import Derived.Test.YtabeppaehenefaaGreatMem
namespace Go.Proofs.YtabeppaehenefaaGreat
open Go.RowKit

def runOps (P : Program) (ops : Array Oper) : List Oper → Act → World → Option (Act × World)
  | [], a, w => some (a, w)
  | o :: rest, a, w =>
    match Region.wanted o (yielded ops a.tmps) with
    | true =>
      match (execOp a.eval o).run P w with
      | .ok (.value v) w' => runOps P ops rest (a.put o.dst v) w'
      | .ok .skip w' => runOps P ops rest (a.put o.dst undef) w'
      | _ => none
    | false => runOps P ops rest (a.put o.dst undef) w

def straight (P : Program) : Code → Act → World → Option (Exit × Act × World)
  | .skip, a, w => some (.normal, a, w)
  | .ret, a, w => some (.ret, a, w)
  | .exit id, a, w => some (.exit id, a, w)
  | .region _ ops false, a, w => (runOps P ops ops.toList a w).map fun r => (.normal, r.1, r.2)
  | .seq x y, a, w =>
    match straight P x a w with
    | some (.normal, a', w') => straight P y a' w'
    | r => r
  | .cond c x y, a, w =>
    match a.eval c with
    | .bool true => straight P x a w
    | .bool false => straight P y a w
    | _ => none
  | .block id c, a, w =>
    match straight P c a w with
    | some (.exit i, a', w') => if i = id then some (.normal, a', w') else some (.exit i, a', w')
    | r => r
  | _, _, _ => none

theorem wpList_run {P : Program} {ops : Array Oper} {Q : Exit → Act → World → Prop} : ∀ (l : List Oper) (a : Act) (w : World) (a' : Act) (w' : World),
    runOps P ops l a w = some (a', w') → Q .normal a' w' → wpList P ops Q l a w := by
  intro l
  induction l with
  | nil =>
    intro a w a' w' h hq
    simp only [runOps, Option.some.injEq, Prod.mk.injEq] at h
    obtain ⟨rfl, rfl⟩ := h
    exact hq
  | cons o rest ih =>
    intro a w a' w' h hq
    unfold runOps at h
    unfold wpList
    split at h
    · rename_i hw
      rw [if_pos hw]
      left
      unfold Oper.wp
      split at h
      · rename_i v w1 hr
        rw [hr]
        exact ih _ _ _ _ h hq
      · rename_i w1 hr
        rw [hr]
        exact ih _ _ _ _ h hq
      · cases h
    · rename_i hw
      rw [if_neg (by rw [hw]; simp)]
      exact ih _ _ _ _ h hq

theorem straight_wp {P : Program} : ∀ (c : Code) (Q : Exit → Act → World → Prop) (a : Act) (w : World) (e : Exit) (a' : Act) (w' : World),
    straight P c a w = some (e, a', w') → Q e a' w' → c.wp P Q a w := by
  intro c
  induction c with
  | skip =>
    intro Q a w e a' w' h hq
    simp only [straight, Option.some.injEq, Prod.mk.injEq] at h
    obtain ⟨rfl, rfl, rfl⟩ := h
    exact wp_skip hq
  | ret =>
    intro Q a w e a' w' h hq
    simp only [straight, Option.some.injEq, Prod.mk.injEq] at h
    obtain ⟨rfl, rfl, rfl⟩ := h
    exact wp_ret hq
  | exit id =>
    intro Q a w e a' w' h hq
    simp only [straight, Option.some.injEq, Prod.mk.injEq] at h
    obtain ⟨rfl, rfl, rfl⟩ := h
    exact wp_exit hq
  | region id ops draw =>
    intro Q a w e a' w' h hq
    cases draw with
    | true => simp [straight] at h
    | false =>
      simp only [straight, Option.map_eq_some_iff, Prod.mk.injEq] at h
      obtain ⟨r, hr, rfl, rfl, rfl⟩ := h
      exact wp_region_list (wpList_run _ _ _ _ _ hr hq)
  | seq x y ihx ihy =>
    intro Q a w e a' w' h hq
    simp only [straight] at h
    cases hx : straight P x a w with
    | none => rw [hx] at h; simp at h
    | some r =>
      obtain ⟨e1, a1, w1⟩ := r
      rw [hx] at h
      refine wp_seq (ihx _ a w e1 a1 w1 hx ?_)
      cases e1 with
      | normal => exact ihy Q a1 w1 e a' w' h hq
      | exit id => simp only [Option.some.injEq, Prod.mk.injEq] at h; obtain ⟨rfl, rfl, rfl⟩ := h; exact hq
      | goto l => simp only [Option.some.injEq, Prod.mk.injEq] at h; obtain ⟨rfl, rfl, rfl⟩ := h; exact hq
      | ret => simp only [Option.some.injEq, Prod.mk.injEq] at h; obtain ⟨rfl, rfl, rfl⟩ := h; exact hq
      | panic ch => simp only [Option.some.injEq, Prod.mk.injEq] at h; obtain ⟨rfl, rfl, rfl⟩ := h; exact hq
      | outgrown => simp only [Option.some.injEq, Prod.mk.injEq] at h; obtain ⟨rfl, rfl, rfl⟩ := h; exact hq
  | cond c x y ihx ihy =>
    intro Q a w e a' w' h hq
    simp only [straight] at h
    split at h
    · rename_i hc
      exact wp_cond_true hc (ihx Q a w e a' w' h hq)
    · rename_i hc
      exact wp_cond_false hc (ihy Q a w e a' w' h hq)
    · cases h
  | block id c ih =>
    intro Q a w e a' w' h hq
    simp only [straight] at h
    refine wp_block ?_
    cases hx : straight P c a w with
    | none => rw [hx] at h; simp at h
    | some r =>
      obtain ⟨e1, a1, w1⟩ := r
      rw [hx] at h
      refine ih _ a w e1 a1 w1 hx ?_
      cases e1 with
      | exit i =>
        simp only [Exit.inBlock]
        simp only at h
        split at h
        · rename_i hi
          simp only [Option.some.injEq, Prod.mk.injEq] at h
          obtain ⟨rfl, rfl, rfl⟩ := h
          rw [if_pos hi]
          exact hq
        · rename_i hi
          simp only [Option.some.injEq, Prod.mk.injEq] at h
          obtain ⟨rfl, rfl, rfl⟩ := h
          rw [if_neg hi]
          exact hq
      | normal => simp only [Option.some.injEq, Prod.mk.injEq] at h; obtain ⟨rfl, rfl, rfl⟩ := h; exact hq
      | goto l => simp only [Option.some.injEq, Prod.mk.injEq] at h; obtain ⟨rfl, rfl, rfl⟩ := h; exact hq
      | ret => simp only [Option.some.injEq, Prod.mk.injEq] at h; obtain ⟨rfl, rfl, rfl⟩ := h; exact hq
      | panic ch => simp only [Option.some.injEq, Prod.mk.injEq] at h; obtain ⟨rfl, rfl, rfl⟩ := h; exact hq
      | outgrown => simp only [Option.some.injEq, Prod.mk.injEq] at h; obtain ⟨rfl, rfl, rfl⟩ := h; exact hq
  | _ =>
    intro Q a w e a' w' h hq
    simp [straight] at h

/-- what a function of straight code gives -/
def gives (P : Program) (fn : Func) (args : Array Value) (w : World) : Option (Bool × List Deferred × Result Value × World) :=
  (straight P (fn.body.getD .skip) { tmps := args ++ Array.replicate (fn.ntmps - args.size) undef, defers := [] } w).map fun r =>
    ((match r.1 with | .ret => true | .normal => true | _ => false), r.2.1.defers, (results fn r.2.1.tmps).run P r.2.2, r.2.2)

theorem calls_straight {P : Program} {f : FuncId} {fn : Func} {args : Array Value} {w w' : World} {v : Value} (hf : P.funcs[f]? = some fn) (hb : fn.body.isSome = true)
    (h : gives P fn args w = some (true, [], .ok v w', w')) : Calls P f args w fun e w1 => e = .returned v ∧ w1 = w' := by
  obtain ⟨c, hc⟩ := Option.isSome_iff_exists.1 hb
  refine calls_of_wp hf hc ?_
  unfold gives at h
  rw [hc] at h
  simp only [Option.getD_some, Option.map_eq_some_iff, Prod.mk.injEq] at h
  obtain ⟨⟨e, a, w1⟩, hr, h1, h2, h3, rfl⟩ := h
  refine straight_wp c _ _ _ e a w1 hr ?_
  cases e with
  | ret => exact ⟨h2, v, h3, rfl, rfl⟩
  | normal => exact ⟨h2, v, h3, rfl, rfl⟩
  | _ => simp at h1

end Go.Proofs.YtabeppaehenefaaGreat
