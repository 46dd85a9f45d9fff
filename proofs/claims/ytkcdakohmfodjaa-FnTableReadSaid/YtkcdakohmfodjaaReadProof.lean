/-
  FnTableRead: for every list of fields and every slice of bytes the statement's Go function returns true: the bytes of a table, with others behind them, are read as the table. No condition.
-/
import Derived.Test.YtkcdakohmfodjaaRows
import Derived.Test.YtkcdakohmfodjaaTl
import Derived.Test.YtkcdakohmfodjaaTd
import Derived.WalkKit
import Derived.ProofKit
import Derived.OpenShut
import Derived.Below
import Derived.Carry
import Derived.ChangeOld
namespace Go.Proofs.Ytkcdakohmfodjaa.fnTableRead
open Go.ChangeShapes Go.WideShapes Go.ChangeAt Go.RowKit
set_option linter.unusedVariables false

theorem own : ownKnob Try.prog.godebug = none := by kernel_rfl
theorem laidOut : laidOutB Try.prog = true := by kernel_rfl
theorem cells5 : Try.prog.cellsOf 5 = 1 := by kernel_rfl

section
variable {H : Type} {enc : TypeId × Value → H}

set_option maxRecDepth 100000 in
/-- a slice of bytes that came in reads as bytes -/
theorem open_bytes {W : World} {base : Nat} {v1 : Value} {d1 : DataW H} {p1 : List MemPlace} (hval : Value.okWide Try.prog W .any base 27 v1) (h1 : DataW.Trod enc Try.prog W 0 (fun _ => true) true 27 v1 d1 p1) :
    ∃ l : List UInt8, Rb W W.heap.size v1 l := by
  obtain ⟨a1, len, cap, rfl⟩ := okWide_slice Try.underlying27 hval
  obtain ⟨fuel, hf⟩ := h1
  rcases open_ints Try.underlying27 under5 cells5 hf with ⟨hcs, hx⟩ | ⟨a, len', cap', zs, hcs, _, hl, hm, hz, hx, hcell, hwz⟩
  · simp [Value.cells] at hcs
    obtain ⟨rfl, rfl, rfl⟩ := hcs
    exact ⟨[], Rb.nil _ _ _ _⟩
  · simp [Value.cells] at hcs
    obtain ⟨rfl, rfl, rfl⟩ := hcs
    simp only [if_true] at hz
    have hlen : ((zs.take len).map fun n => UInt8.ofNat n.toNat).length = len := by simp; omega
    refine ⟨(zs.take len).map fun n => UInt8.ofNat n.toNat, some a, cap, by rw [hlen], by rw [hlen]; exact hl, fun hn => ⟨a, rfl, ?_, fun j u hu => ?_⟩⟩
    · rw [hlen] at hn
      have := World.block_lt_of_cell? W _ (hcell 0 (by omega))
      rwa [block_of_add] at this
    · have hj : j < len := by
        have := (List.getElem?_eq_some_iff.1 hu).1
        rwa [bcells_length, hlen] at this
      rw [hcell j (by omega), ← hu]
      have hb := range_u8 hwz j
      have e : zs[j]?.getD 0 = zs[j]'(by omega) := by simp [List.getElem?_eq_getElem (show j < zs.length by omega)]
      rw [e] at hb
      rw [List.getD_eq_getElem?_getD, e]
      simp only [bcells, List.getElem?_map, List.getElem?_take_of_lt hj, List.getElem?_eq_getElem (show j < zs.length by omega), Option.map_some]
      congr 2
      rw [toNat_ofNat8]
      omega
end

set_option maxRecDepth 100000 in
theorem lifted (os : Os) (started : os.Started) (H : Type) (enc : TypeId × Value → H) :
    ReturnsInHanded {} Try.checked os 6 .any (Rows.fnTableReadSpec.pre6 enc Try.prog Try.f6 Rows.fnTableReadRow.domain false) (Rows.fnTableReadSpec.post enc Try.prog Try.f6 false true false false) := by
  refine returnsInHanded_of_change_sized (C := Try.checked) own started (by kernel_rfl) Try.func6
    (ChangeSpec.witness6 (enc := enc) (C := Try.checked) false ⟨#[], #[.slice none 0 0, .slice none 0 0], []⟩ 8 (by kernel_rfl) (by kernel_rfl) (by kernel_rfl) (by kernel_rfl)) ?_
  intro W base args ds gs before hval0 hW hcnd hsz _
  have hval : ∀ (j : Nat) t v, Try.f6.params[j]? = some t → args[j]? = some v → Value.okWide Try.prog W .any base t v := hval0
  have hW' := hW
  obtain ⟨p, q, hA0, hV, rfl, hfz, hnd⟩ := hW
  have hA : DataW.TrodAll enc Try.prog W 0 (fun _ => true) true Try.f6.params.toList args.toList ds p := hA0
  have hsz' : (DataW.weightsEach Try.prog (Try.f6.params.toList ++ Rows.fnTableReadSpec.plain.varTypes Try.prog) (ds ++ gs)).all (· ≤ reachBytes) = true := hsz
  rw [Try.params6] at hA hval hsz'
  obtain ⟨v0, vs0, d0, ds0, p0, q0, hargs, rfl, rfl, h0, r0⟩ := trodAll_cons hA
  obtain ⟨v1, vs1, d1, ds1, p1, q1, rfl, rfl, rfl, h1, r1⟩ := trodAll_cons r0
  obtain ⟨rfl, rfl, rfl⟩ := trodAll_nil r1
  obtain rfl : args = #[v0, v1] := by cases args; simp_all
  obtain ⟨rfl, rfl⟩ := trodVars_none hV
  have hlight : Light d0 22 := fun n hn => by
    have := List.all_eq_true.1 hsz' n (DataW.weights_mem_each (j := 0) (t := 22) (d := d0) rfl rfl n hn)
    simpa using this
  have k0 := h0
  have lt0 : ∀ x ∈ p0, x.block < W.heap.size := by obtain ⟨m, hm⟩ := k0; exact DataW.trod_lt m _ _ _ hm
  have k1 := h1
  have lt1 : ∀ x ∈ p1, x.block < W.heap.size := by obtain ⟨m, hm⟩ := k1; exact DataW.trod_lt m _ _ _ hm
  obtain ⟨fs, A, c, xs, rfl, ho, hl, hc, hR, hF⟩ := open_fields (hval 0 22 v0 rfl rfl) h0 hlight
  obtain ⟨bs, hbs⟩ := open_bytes (hval 1 27 v1 rfl rfl) h1
  clear hA0 hval0
  simp only [List.append_nil] at hW'
  refine (FnTableRead_any ho hl hR hF hc (fun g hg => hg) hbs).mono fun e W' ⟨he, bel⟩ => ?_
  subst he
  exact ⟨_, rfl, _, _, _, [], _, [], hW', trodAll_mk1 (shut_bool Try.underlying4 _), (trodAll_cons_mk (Below.trod laidOut (by kernel_rfl) (of_decide_eq_true (by kernel_rfl)) k0 bel lt0) (trodAll_cons_mk (Below.trod laidOut (by kernel_rfl) (of_decide_eq_true (by kernel_rfl)) k1 bel lt1) trodAll_mk0)), rfl, bel.frame _, fun h => by cases h⟩

theorem over : Rows.fnTableReadRow.holds Try.pinned (OpenSpec.ofChange Rows.fnTableReadSpec) :=
  OpenClaim.holds_of_wide 6 Try.f6 rfl rfl rfl rfl rfl rfl rfl ⟨rfl, rfl, rfl, rfl, rfl⟩ rfl rfl rfl rfl rfl (by kernel_rfl) Try.func6 (by kernel_rfl)
    (of_decide_eq_true (by kernel_rfl)) (by unfold Func.isWrapper; first | (rw [if_pos (by decide +kernel)]; kernel_rfl) | (rw [if_neg (by decide +kernel)]; exact ⟨rfl, rfl⟩))
    (fun os started H enc _ => lifted os started H enc)

theorem fnTableRead_holds : Rows.FnTableReadSaid := over
#print axioms fnTableRead_holds
end Go.Proofs.Ytkcdakohmfodjaa.fnTableRead
