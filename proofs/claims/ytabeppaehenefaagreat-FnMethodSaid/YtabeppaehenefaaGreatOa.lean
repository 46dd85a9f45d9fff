/-
  FnMethod: ZZMethod: what it gives.
-/
import Derived.Test.YtabeppaehenefaaGreatMf
import Derived.Test.YtabeppaehenefaaGreatWe
namespace Go.Proofs.YtabeppaehenefaaGreat
open Go.RowKit

@[go_sem] theorem eq100 (a b c d : Int) (w : World) : (Op.equalIn 10000 100 (.agg #[.int .u16 a, .int .u16 b]) (.agg #[.int .u16 c, .int .u16 d])).run Tryz.prog w = .ok (a == c && b == d) w := by
  have u3 := Tryz.underlying51
  have a3 := Tryz.isAgg51
  have z3 := Tryz.sizeOf51
  rw [show (10000 : Nat) = 9999 + 1 from rfl, Op.equalIn]
  simp only [Sem.run_bind, run_underlying Tryz.underlying100, Result.andThen_ok]
  simp only [Std.Legacy.Range.forIn_eq_forIn_range', Std.Legacy.Range.size, Nat.sub_zero, Nat.add_sub_cancel, Nat.div_one, List.range'_succ, List.range'_zero, List.forIn_cons, List.forIn_nil]
  go_simp
  by_cases h1 : a = c <;> by_cases h2 : b = d <;> simp [h1, h2]

def ZzPost (w : World) (tp ts : TypeId) (cs : Array Value) (e : Ending) (w' : World) : Prop :=
  ∃ g, e = .returned (.tuple #[.iface tp (.pointer (some ⟨g, 0, none⟩)), .bool true]) ∧ w.heap.size ≤ g ∧ Blk w' g ts cs ∧ Below w.heap.size w w'

/-- the properties and the body of a method that has content, as they are made -/
def zprops : List Value := [.string ⟨#[]⟩, .string ⟨#[]⟩, .map none, .int .u8 0, .int .u8 0, .string ⟨#[]⟩, .string ⟨#[]⟩, .string ⟨#[]⟩, .string ⟨#[]⟩, .int .u64 0, .int .i64 0, .pointer none, .string ⟨#[]⟩, .string ⟨#[]⟩, .string ⟨#[]⟩, .string ⟨#[]⟩, .slice none 0 0]

end Go.Proofs.YtabeppaehenefaaGreat
