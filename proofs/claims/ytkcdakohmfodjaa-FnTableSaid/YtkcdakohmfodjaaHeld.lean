/-
  Steps of a held walk by hand: to take an operation, to skip one that is not wanted, to run a load; and to hand the rest to the kit's walk.
-/
import Derived.Deep.RegionHeld3
namespace Go.Proofs.Ytkcdakohmfodjaa
open Lean Elab Tactic Meta

/-- the i-th operation of the region at hand, written out -/
def heldOp (i : Nat) : TacticM (TSyntax `term) := withMainContext do
  let t := (← instantiateMVars (← getMainTarget)).consumeMData
  let some oe := opAt t.getAppArgs[2]! i | throwError "no such operation"
  Term.exprToSyntax oe

elab "held_skip " i:num : tactic => withMainContext do
  let o ← heldOp i.getNat
  Tactic.withoutRecover (evalTactic (← `(tactic| refine wpAnyH_take (i := $i) (oi := $o) (v := undef) rfl (by kernel_rfl) (by kernel_rfl) (by kernel_rfl) (fun _ _ _ h => h) (Or.inr ⟨by rfl, rfl⟩) (by assumption) ?_)))
  evalTactic (← `(tactic| try simp only [Act.put, List.setIfInBounds_toArray, List.set_cons_zero, List.set_cons_succ]))

elab "held_take " i:num : tactic => withMainContext do
  let o ← heldOp i.getNat
  Tactic.withoutRecover (evalTactic (← `(tactic| refine wpAnyH_take (i := $i) (oi := $o) (v := ?_) rfl (by kernel_rfl) (by kernel_rfl) (by kernel_rfl) (fun _ _ _ h => h) (Or.inl ⟨by rfl, ?_⟩) (by assumption) ?_)))
  let [_, hy, rest] ← getGoals | throwError "three goals expected"
  setGoals [hy]
  evalTactic (← `(tactic| (intro w hSw; (try dsimp only at hSw); go_simp)))
  unless (← getGoals).isEmpty do evalTactic (← `(tactic| with_reducible rfl))
  setGoals [rest]
  evalTactic (← `(tactic| try simp only [Act.put, List.setIfInBounds_toArray, List.set_cons_zero, List.set_cons_succ]))

/-- an operation that alone may come up, run in the world at hand; it leaves the world as it is -/
elab "held_run " i:num : tactic => withMainContext do
  let o ← heldOp i.getNat
  Tactic.withoutRecover (evalTactic (← `(tactic| (
    refine wpAnyH_ready (rs := [$i]) (by kernel_rfl) (by simp) ?_
    refine AllReadyH.cons (o := $o) rfl (fun K hK => ?_) AllReadyH.nil
    go_simp
    refine hK.out _ _ (by assumption) (fun _ => ?_)
    clear hK K
    try simp only [Act.put, List.setIfInBounds_toArray, List.set_cons_zero, List.set_cons_succ]))))

elab "held_rest " "(" keep:tactic ")" ppSpace "(" tac:tactic ")" : tactic => regionWalkH3 keep tac false

end Go.Proofs.Ytkcdakohmfodjaa
