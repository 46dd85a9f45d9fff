/-
  Readers: numbers out of bytes.
-/
import Derived.Test.YtkcdakohmfodjaaRb
import Derived.Deep.QuietTactic
import Derived.BigQuiet
namespace Go.Proofs.Ytkcdakohmfodjaa
open Go.RowKit
attribute [local go_sem ↓] Go.wp_at_zero Go.wp_at_succ

theorem or_sum (k a b : Nat) (h : a < 2 ^ k) : a ||| (b * 2 ^ k) = a + b * 2 ^ k := by
  rw [Nat.or_comm, ← Nat.shiftLeft_eq, ← Nat.shiftLeft_add_eq_or_of_lt h, Nat.add_comm]
theorem bor32 (a b : Nat) (ha : a < 4294967296) (hb : b < 4294967296) : bits .or .u32 (a : Int) (b : Int) = ((a ||| b : Nat) : Int) :=
  (bits_nat .u32 32 (by decide) (fun n h0 h1 => by
    have h1' : n < 4294967296 := h1
    simp only [IntKind.wrap, IntKind.bits, IntKind.signed]; simp; omega) a b ha hb).2
theorem bor16 (a b : Nat) (ha : a < 65536) (hb : b < 65536) : bits .or .u16 (a : Int) (b : Int) = ((a ||| b : Nat) : Int) :=
  (bits_nat .u16 16 (by decide) (fun n h0 h1 => by
    have h1' : n < 65536 := h1
    simp only [IntKind.wrap, IntKind.bits, IntKind.signed]; simp; omega) a b ha hb).2
theorem bor64 (a b : Nat) (ha : a < 18446744073709551616) (hb : b < 18446744073709551616) : bits .or .u64 (a : Int) (b : Int) = ((a ||| b : Nat) : Int) :=
  (bits_nat .u64 64 (by decide) (fun n h0 h1 => by
    have h1' : n < 18446744073709551616 := h1
    simp only [IntKind.wrap, IntKind.bits, IntKind.signed]; simp; omega) a b ha hb).2

theorem or4 (n0 n1 n2 n3 : Nat) (h0 : n0 < 256) (h1 : n1 < 256) (h2 : n2 < 256) (h3 : n3 < 256) :
    bits .or .u32 (bits .or .u32 (bits .or .u32 (n3 : Int) ((n2 : Int) * 256)) ((n1 : Int) * 65536)) ((n0 : Int) * 16777216) = ((n0 * 16777216 + n1 * 65536 + n2 * 256 + n3 : Nat) : Int) := by
  have e1 : bits .or .u32 (n3 : Int) ((n2 : Int) * 256) = ((n3 + n2 * 256 : Nat) : Int) := by
    have := bor32 n3 (n2 * 256) (by omega) (by omega)
    rw [or_sum 8 n3 n2 (by omega)] at this
    simpa using this
  rw [e1]
  have e2 : bits .or .u32 ((n3 + n2 * 256 : Nat) : Int) ((n1 : Int) * 65536) = ((n3 + n2 * 256 + n1 * 65536 : Nat) : Int) := by
    have := bor32 (n3 + n2 * 256) (n1 * 65536) (by omega) (by omega)
    rw [or_sum 16 (n3 + n2 * 256) n1 (by omega)] at this
    simpa using this
  rw [e2]
  have e3 : bits .or .u32 ((n3 + n2 * 256 + n1 * 65536 : Nat) : Int) ((n0 : Int) * 16777216) = ((n3 + n2 * 256 + n1 * 65536 + n0 * 16777216 : Nat) : Int) := by
    have := bor32 (n3 + n2 * 256 + n1 * 65536) (n0 * 16777216) (by omega) (by omega)
    rw [or_sum 24 (n3 + n2 * 256 + n1 * 65536) n0 (by omega)] at this
    simpa using this
  rw [e3]
  congr 1
  omega
theorem or2 (n0 n1 : Nat) (h0 : n0 < 256) (h1 : n1 < 256) : bits .or .u16 (n1 : Int) ((n0 : Int) * 256) = ((n0 * 256 + n1 : Nat) : Int) := by
  have := bor16 n1 (n0 * 256) (by omega) (by omega)
  rw [or_sum 8 n1 n0 (by omega)] at this
  rw [Nat.add_comm]
  simpa using this
theorem or64 (hi lo : Nat) (h0 : hi < 4294967296) (h1 : lo < 4294967296) : bits .or .u64 ((hi : Int) * 4294967296) (lo : Int) = ((hi * 4294967296 + lo : Nat) : Int) := by
  have := bor64 (hi * 4294967296) lo (by omega) (by omega)
  rw [Nat.or_comm, or_sum 32 lo hi (by omega)] at this
  rw [Nat.add_comm]
  simpa using this

set_option maxRecDepth 100000 in
set_option maxHeartbeats 2000000 in
/-- beUint32 -/
theorem be32_any {w : World} {g o m c : Nat} (b0 b1 b2 b3 : UInt8) (hm : 4 ≤ m) (c0 : w.cell? ⟨g, o, none⟩ = some (.int .u8 b0.toNat)) (c1 : w.cell? ⟨g, o + 1, none⟩ = some (.int .u8 b1.toNat)) (c2 : w.cell? ⟨g, o + 2, none⟩ = some (.int .u8 b2.toNat)) (c3 : w.cell? ⟨g, o + 3, none⟩ = some (.int .u8 b3.toNat)) :
    Calls Try.prog 109 #[.slice (some ⟨g, o, none⟩) m c] w fun e w' => e = .returned (.int .u32 (b0.toNat * 16777216 + b1.toNat * 65536 + b2.toNat * 256 + b3.toNat : Nat)) ∧ ∃ n, w' = w.drewN n := by
  have m0 : 0 < m := by omega
  have m1 : 1 < m := by omega
  have m2 : 2 < m := by omega
  have m3 : 3 < m := by omega
  have h0 := UInt8.toNat_lt b0
  have h1 := UInt8.toNat_lt b1
  have h2 := UInt8.toNat_lt b2
  have h3 := UInt8.toNat_lt b3
  generalize b0.toNat = n0 at *
  generalize b1.toNat = n1 at *
  generalize b2.toNat = n2 at *
  generalize b3.toNat = n3 at *
  go_enter Try.func109, Try.ntmps109
  go_wp2_with fail
  go_quiet (fail)
  go_wp2
  go_ret
  refine ⟨?_, _, rfl⟩
  have := or4 n0 n1 n2 n3 h0 h1 h2 h3
  exact congrArg (fun x => Ending.returned (Value.int .u32 x)) this

set_option maxRecDepth 100000 in
set_option maxHeartbeats 2000000 in
/-- beUint16 -/
theorem be16_any {w : World} {g o m c : Nat} (b0 b1 : UInt8) (hm : 2 ≤ m) (c0 : w.cell? ⟨g, o, none⟩ = some (.int .u8 b0.toNat)) (c1 : w.cell? ⟨g, o + 1, none⟩ = some (.int .u8 b1.toNat)) :
    Calls Try.prog 108 #[.slice (some ⟨g, o, none⟩) m c] w fun e w' => e = .returned (.int .u16 (b0.toNat * 256 + b1.toNat : Nat)) ∧ ∃ n, w' = w.drewN n := by
  have m0 : 0 < m := by omega
  have m1 : 1 < m := by omega
  have h0 := UInt8.toNat_lt b0
  have h1 := UInt8.toNat_lt b1
  generalize b0.toNat = n0 at *
  generalize b1.toNat = n1 at *
  go_enter Try.func108, Try.ntmps108
  go_wp2_with fail
  go_quiet (fail)
  go_wp2
  go_ret
  refine ⟨?_, _, rfl⟩
  have := or2 n0 n1 h0 h1
  exact congrArg (fun x => Ending.returned (Value.int .u16 x)) this

/-- a number out of its bytes, the highest one first -/
def num : List UInt8 → Nat := List.foldl (fun a b => a * 256 + b.toNat) 0

set_option maxRecDepth 100000 in
set_option maxHeartbeats 300000 in
/-- beUint64 -/
theorem be64_any {w : World} {g o m c : Nat} (b0 b1 b2 b3 b4 b5 b6 b7 : UInt8) (hm : 8 ≤ m) (hmc : m ≤ c) (c0 : w.cell? ⟨g, o, none⟩ = some (.int .u8 b0.toNat)) (c1 : w.cell? ⟨g, o + 1, none⟩ = some (.int .u8 b1.toNat)) (c2 : w.cell? ⟨g, o + 2, none⟩ = some (.int .u8 b2.toNat)) (c3 : w.cell? ⟨g, o + 3, none⟩ = some (.int .u8 b3.toNat))
    (c4 : w.cell? ⟨g, o + 4, none⟩ = some (.int .u8 b4.toNat)) (c5 : w.cell? ⟨g, o + 5, none⟩ = some (.int .u8 b5.toNat)) (c6 : w.cell? ⟨g, o + 6, none⟩ = some (.int .u8 b6.toNat)) (c7 : w.cell? ⟨g, o + 7, none⟩ = some (.int .u8 b7.toNat)) :
    Calls Try.prog 111 #[.slice (some ⟨g, o, none⟩) m c] w fun e w' => e = .returned (.int .u64 (num [b0, b1, b2, b3, b4, b5, b6, b7] : Nat)) ∧ ∃ n, w' = w.drewN n := by
  have h0 := UInt8.toNat_lt b0
  have h1 := UInt8.toNat_lt b1
  have h2 := UInt8.toNat_lt b2
  have h3 := UInt8.toNat_lt b3
  have h4 := UInt8.toNat_lt b4
  have h5 := UInt8.toNat_lt b5
  have h6 := UInt8.toNat_lt b6
  have h7 := UInt8.toNat_lt b7
  have p1 := fun n => be32_any (w := w.drewN n) (g := g) (o := o) (m := m) (c := c) b0 b1 b2 b3 (by omega) c0 c1 c2 c3
  have p2 := fun n => be32_any (w := w.drewN n) (g := g) (o := o + 4) (m := m - 4) (c := c - 4) b4 b5 b6 b7 (by omega) c4 c5 c6 c7
  obtain ⟨hi, hhi⟩ : ∃ hi, hi = b0.toNat * 16777216 + b1.toNat * 65536 + b2.toNat * 256 + b3.toNat := ⟨_, rfl⟩
  obtain ⟨lo, hlo⟩ : ∃ lo, lo = b4.toNat * 16777216 + b5.toNat * 65536 + b6.toNat * 256 + b7.toNat := ⟨_, rfl⟩
  rw [← hhi] at p1
  rw [← hlo] at p2
  have hn : num [b0, b1, b2, b3, b4, b5, b6, b7] = hi * 4294967296 + lo := by
    rw [hhi, hlo]
    simp only [num, List.foldl]
    omega
  rw [hn]
  have hhl : hi < 4294967296 := by omega
  have hll : lo < 4294967296 := by omega
  have P1 := Lib.hid p1
  have P2 := Lib.hid p2
  have m7 : 7 < m := by omega
  have e1 : (4 : Int) ≤ (m : Int) := by omega
  have hc1 : 4 < c := by omega
  have hc2 : ¬ (c = 4) := by omega
  have hc3 : 4 ≤ m := by omega
  have ho := or64 hi lo hhl hll
  have HO := Lib.hid ho
  clear p1 p2 hhi hlo hn h0 h1 h2 h3 h4 h5 h6 h7 c0 c1 c2 c3 c4 c5 c6 ho
  go_enter Try.func111, Try.ntmps111
  go_wp2_with fail
  go_quiet ((first | with_reducible exact Calls.quiet_of (P1.out _) | with_reducible exact Calls.quiet_of (P2.out _)))
  go_wp2
  go_ret
  exact ⟨congrArg (fun x => Ending.returned (Value.int .u64 x)) HO.out, _, rfl⟩

end Go.Proofs.Ytkcdakohmfodjaa
