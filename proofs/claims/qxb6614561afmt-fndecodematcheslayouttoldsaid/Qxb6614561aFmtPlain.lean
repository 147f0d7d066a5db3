/-
  THE PLAIN MATHEMATICS of the wire layout: numbers read big-endian off a list of bytes. No Go in sight.
-/
import Derived.Lib.EndianMore
import Derived.Lib.EndianBits
import Derived.Laws.Strings
import Derived.WalkKit
namespace Go.Proofs.Qxb6614561aFmt
open Go

theorem beNat_cons (b : UInt8) (l : List UInt8) : Lib.beNat (b :: l) = b.toNat * 256 ^ l.length + Lib.beNat l := by
  rw [Lib.beNat, Lib.beFrom, Lib.beFrom_eq, Lib.beNat_eq, Nat.zero_mul, Nat.zero_add]

theorem beNat_lt : ∀ l : List UInt8, Lib.beNat l < 256 ^ l.length
  | [] => by decide
  | b :: l => by
    rw [beNat_cons, List.length_cons, Nat.pow_succ]
    have h1 := beNat_lt l
    have h2 : b.toNat ≤ 255 := by have := b.toNat_lt; omega
    have h3 : b.toNat * 256 ^ l.length ≤ 255 * 256 ^ l.length := Nat.mul_le_mul_right _ h2
    omega

theorem beNat_append (l m : List UInt8) : Lib.beNat (l ++ m) = Lib.beNat l * 256 ^ m.length + Lib.beNat m := by
  induction l with
  | nil => simp [Lib.beNat, Lib.beFrom]
  | cons a l ih => rw [List.cons_append, beNat_cons, beNat_cons, ih, List.length_append, Nat.pow_add, Nat.add_mul, Nat.mul_assoc, Nat.add_assoc]

/-- The number that the k bytes from place p on spell, the greatest first. -/
def be (bs : List UInt8) (p k : Nat) : Nat := Lib.beNat ((bs.drop p).take k)

theorem be_zero (bs : List UInt8) (p : Nat) : be bs p 0 = 0 := by simp [be, Lib.beNat, Lib.beFrom]

theorem be_succ (bs : List UInt8) (p k : Nat) (h : p + k < bs.length) : be bs p (k + 1) = be bs p k * 256 + bs[p + k].toNat := by
  unfold be
  rw [List.take_succ_eq_append_getElem (by simp; omega), beNat_append]
  simp [Lib.beNat, Lib.beFrom]

theorem be_lt (bs : List UInt8) (p k : Nat) : be bs p k < 256 ^ k := by
  have h1 := beNat_lt ((bs.drop p).take k)
  have h2 : ((bs.drop p).take k).length ≤ k := List.length_take_le _ _
  exact Nat.lt_of_lt_of_le h1 (Nat.pow_le_pow_right (by omega) h2)

theorem be_lt7 (bs : List UInt8) (p k : Nat) (h : k < 8) : be bs p k < 72057594037927936 := by
  have h1 := be_lt bs p k
  have h3 : 256 ^ k ≤ 256 ^ 7 := Nat.pow_le_pow_right (by omega) (by omega)
  omega

theorem be_lt8 (bs : List UInt8) (p k : Nat) (h : k ≤ 8) : be bs p k < 18446744073709551616 := by
  have h1 := be_lt bs p k
  have h3 : 256 ^ k ≤ 256 ^ 8 := Nat.pow_le_pow_right (by omega) h
  omega

/-- One round of reading: 'x<<8 | b'. -/
theorem or_step (x b : Nat) (hx : x < 72057594037927936) (hb : b < 256) : bits BinOp.or IntKind.u64 (IntKind.u64.wrap ((x : Int) * 256)) (IntKind.u64.wrap (b : Int)) = ((x * 256 + b : Nat) : Int) := by
  rw [IntKind.wrap_u64, IntKind.wrap_u64]
  have e1 : (x : Int) * 256 % 18446744073709551616 = ((x * 256 : Nat) : Int) := by omega
  have e2 : (b : Int) % 18446744073709551616 = (b : Int) := by omega
  rw [e1, e2, u64_or_nat (x * 256) b (by omega) (by omega)]
  have := Nat.two_pow_add_eq_or_of_lt (i := 8) (b := b) (by omega) x
  rw [Nat.mul_comm x 256]
  rw [show (256 : Nat) = 2 ^ 8 from rfl, ← this]

theorem or_plain (x b : Nat) (hx : x < 72057594037927936) (hb : b < 256) : bits BinOp.or IntKind.u64 ((x : Int) * 256) (b : Int) = ((x * 256 + b : Nat) : Int) := by
  have h := or_step x b hx hb
  rw [IntKind.wrap_u64, IntKind.wrap_u64, show (x : Int) * 256 % 18446744073709551616 = (x : Int) * 256 by omega, show (b : Int) % 18446744073709551616 = (b : Int) by omega] at h
  exact h

end Go.Proofs.Qxb6614561aFmt
