/-
  The plain data of tables (values, fields), their bytes and what the statements ask of them.
-/
import Ieee.Arith
import GoSem.Core.Float
namespace Go.Proofs.YtabeppaehenefaaGreat

mutual
inductive V where
  | mk (k n : Int) (f : Nat) (s : Int) (t : ByteArray) (ks : Vs) (fs : Fs)
inductive Vs where
  | nil
  | cons (v : V) (r : Vs)
inductive Fs where
  | nil
  | cons (name : ByteArray) (v : V) (r : Fs)
end

abbrev zeroV : V := .mk 0 0 0 0 ⟨#[]⟩ .nil .nil

def Vs.len : Vs → Nat
  | .nil => 0
  | .cons _ r => r.len + 1
def Fs.len : Fs → Nat
  | .nil => 0
  | .cons _ _ r => r.len + 1

def Vs.app : Vs → Vs → Vs
  | .nil, b => b
  | .cons v r, b => .cons v (r.app b)
def Fs.app : Fs → Fs → Fs
  | .nil, b => b
  | .cons n v r, b => .cons n v (r.app b)

mutual
def V.ht : V → Nat
  | .mk _ _ _ _ _ ks fs => max ks.ht fs.ht + 1
def Vs.ht : Vs → Nat
  | .nil => 0
  | .cons v r => max v.ht r.ht
def Fs.ht : Fs → Nat
  | .nil => 0
  | .cons _ v r => max v.ht r.ht
end

def be (n : Nat) : Nat → List UInt8
  | 0 => []
  | k + 1 => UInt8.ofNat (n >>> (8 * k)) :: be n k

theorem be_len (n k : Nat) : (be n k).length = k := by induction k with
  | zero => rfl
  | succ k ih => simp [be, ih]

theorem toNat_ofNat8 (n : Nat) : (UInt8.ofNat n).toNat = n % 256 := by simp
theorem be1 (n : Nat) : be n 1 = [UInt8.ofNat n] := by simp [be]
theorem be2 (n : Nat) : be n 2 = [UInt8.ofNat (n / 256), UInt8.ofNat n] := by simp [be, Nat.shiftRight_eq_div_pow]
theorem be4 (n : Nat) : be n 4 = [UInt8.ofNat (n / 16777216), UInt8.ofNat (n / 65536), UInt8.ofNat (n / 256), UInt8.ofNat n] := by simp [be, Nat.shiftRight_eq_div_pow]
theorem be8 (n : Nat) : be n 8 = [UInt8.ofNat (n / 72057594037927936), UInt8.ofNat (n / 281474976710656), UInt8.ofNat (n / 1099511627776), UInt8.ofNat (n / 4294967296), UInt8.ofNat (n / 16777216), UInt8.ofNat (n / 65536), UInt8.ofNat (n / 256), UInt8.ofNat n] := by simp [be, Nat.shiftRight_eq_div_pow]

def u64 (n : Int) : Nat := (n % 18446744073709551616).toNat

/-- the bits of a float32 of a float64 -/
def f32 (b : Nat) : Nat := Go.FloatKind.f32.encode (Go.FloatKind.f64.decode b)

mutual
def V.enc : V → List UInt8
  | .mk k n f s t ks fs =>
    UInt8.ofNat k.toNat :: 
    (if k = 116 ∨ k = 98 ∨ k = 66 then be (u64 n) 1
     else if k = 115 then be (u64 n) 2
     else if k = 73 then be (u64 n) 4
     else if k = 108 ∨ k = 84 then be (u64 n) 8
     else if k = 102 then be (f32 f) 4
     else if k = 100 then be f 8
     else if k = 68 then be (u64 s) 1 ++ be (u64 n) 4
     else if k = 83 ∨ k = 120 then be t.size 4 ++ t.data.toList
     else if k = 65 then be ks.enc.length 4 ++ ks.enc
     else if k = 70 then be fs.enc.length 4 ++ fs.enc
     else [])
def Vs.enc : Vs → List UInt8
  | .nil => []
  | .cons v r => v.enc ++ r.enc
def Fs.enc : Fs → List UInt8
  | .nil => []
  | .cons name v r => UInt8.ofNat name.size :: name.data.toList ++ v.enc ++ r.enc
end

def tab (fs : Fs) : List UInt8 := be fs.enc.length 4 ++ fs.enc

end Go.Proofs.YtabeppaehenefaaGreat
