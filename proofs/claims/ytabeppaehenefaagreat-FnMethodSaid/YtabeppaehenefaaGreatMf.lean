/-
  FnMethod: what bytes a method has (plain), by its letters and arguments.
-/
import Derived.Test.YtabeppaehenefaaGreatMc
import Derived.Test.YtabeppaehenefaaGreatS3
import Derived.StillTailTactics
namespace Go.Proofs.YtabeppaehenefaaGreat
open Go.RowKit

/-- a region that draws its order: n operations that only read, then a tail in one forced order -/
theorem region_still_tail {P : Program} {id : Nat} {Q : Exit → Act → World → Prop} {a : Act} {w : World} {l : List Oper} (n : Nat) (hm : P.follows .mixedOrders = true) (hB : Region.lexTailB .any l.toArray n = true)
    (h : wpStill P l.toArray w.drew (fun a' => wpList P l.toArray Q (l.drop n) a' w.drew) (l.take n) a) : (Code.region id l.toArray true).wp P Q a w := wp_region_still_tail n hm hB h

/-- what the closure puts: a byte of bits, if some wait -/
def flushB (n h : Nat) : List UInt8 := if 0 < n then [UInt8.ofNat h] else []
/-- an argument's bytes, by its letter (bits apart) -/
def argB (c : Nat) (a : Ag) : List UInt8 :=
  match c with
  | 111 => be a.n.toNat 1
  | 115 => be a.n.toNat 2
  | 49 => be a.n.toNat 2
  | 108 => be a.n.toNat 4
  | 113 => be a.n.toNat 8
  | 83 => be a.t.size 1 ++ a.t.data.toList
  | 50 => be a.t.size 1 ++ a.t.data.toList
  | 76 => be a.t.size 4 ++ a.t.data.toList
  | 52 => be a.t.size 4 ++ a.t.data.toList
  | 116 => tab a.fs
  | _ => []
/-- no argument: what a reserved letter has -/
def Ag.none : Ag := ⟨0, 0, ⟨#[]⟩, .nil⟩
/-- the argument of a letter, and those behind it -/
def takeA (c : UInt8) (gs : List Ag) : Ag × List Ag := if c.toNat < 65 then (.none, gs) else (gs.headD .none, gs.tail)
/-- the bits that wait, one more -/
def orBit (n h : Nat) (a : Ag) : Nat := h ||| (((a.n.toNat % 2) <<< n) % 256)
/-- the bytes of the letters' arguments; n bits wait in h -/
def argsB : List UInt8 → List Ag → Nat → Nat → List UInt8
  | [], _, n, h => flushB n h
  | c :: r, gs, n, h =>
    if c.toNat = 98 ∨ c.toNat = 51 then argsB r (takeA c gs).2 (n + 1) (orBit n h (takeA c gs).1)
    else flushB n h ++ (argB c.toNat (takeA c gs).1 ++ argsB r (takeA c gs).2 0 0)
/-- a method's bytes -/
def methB (cl me : Int) (ls : List UInt8) (gs : List Ag) : List UInt8 := be cl.toNat 2 ++ (be me.toNat 2 ++ argsB ls gs 0 0)

theorem flushB_len (n h : Nat) : (flushB n h).length ≤ 1 := by unfold flushB; split <;> simp

theorem argsB_low {c : UInt8} {r : List UInt8} {gs : List Ag} {n h : Nat} (hc : c.toNat < 65) (h51 : c.toNat ≠ 51) : argsB (c :: r) gs n h = flushB n h ++ (argB c.toNat .none ++ argsB r gs 0 0) := by
  rw [argsB, if_neg (by omega), takeA, if_pos hc]
theorem argsB_high {c : UInt8} {r : List UInt8} {a : Ag} {gs : List Ag} {n h : Nat} (hc : 65 ≤ c.toNat) (h98 : c.toNat ≠ 98) : argsB (c :: r) (a :: gs) n h = flushB n h ++ (argB c.toNat a ++ argsB r gs 0 0) := by
  rw [argsB, if_neg (by omega), takeA, if_neg (by omega)]
  rfl
theorem argsB_51 {c : UInt8} {r : List UInt8} {gs : List Ag} {n h : Nat} (hc : c.toNat = 51) : argsB (c :: r) gs n h = argsB r gs (n + 1) (orBit n h .none) := by
  rw [argsB, if_pos (by omega), takeA, if_pos (by omega)]
theorem argsB_98 {c : UInt8} {r : List UInt8} {a : Ag} {gs : List Ag} {n h : Nat} (hc : c.toNat = 98) : argsB (c :: r) (a :: gs) n h = argsB r gs (n + 1) (orBit n h a) := by
  rw [argsB, if_pos (by omega), takeA, if_neg (by omega)]
  rfl
theorem orBit_le {n h : Nat} (a : Ag) (hh : h ≤ 255) : orBit n h a ≤ 255 := by
  have : orBit n h a < 2 ^ 8 := Nat.or_lt_two_pow (by omega) (by have := Nat.mod_lt (((a.n.toNat % 2) <<< n)) (y := 256) (by omega); omega)
  omega

end Go.Proofs.YtabeppaehenefaaGreat
