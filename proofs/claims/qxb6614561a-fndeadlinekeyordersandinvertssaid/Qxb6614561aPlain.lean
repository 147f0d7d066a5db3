/-
  THE PLAIN LAW of the deadlines' keys: sixteen bytes, big-endian; as strings they compare as the numbers do. No Go in sight.
-/
import Derived.Lib.EndianMore
import Derived.Laws.Strings
namespace Go.Proofs.Qxb6614561a
open Go

theorem beNat_cons (b : UInt8) (l : List UInt8) : Lib.beNat (b :: l) = b.toNat * 256 ^ l.length + Lib.beNat l := by
  rw [Lib.beNat, Lib.beFrom, Lib.beFrom_eq, Lib.beNat_eq, Nat.zero_mul, Nat.zero_add]

theorem beNat_lt : ∀ l : List UInt8, Lib.beNat l < 256 ^ l.length
  | [] => by decide
  | b :: l => by
    rw [beNat_cons, List.length_cons, Nat.pow_succ]
    have h1 := beNat_lt l
    have h2 : b.toNat ≤ 255 := by have := b.toNat_lt; omega
    have h3 : b.toNat * 256 ^ l.length ≤ 255 * 256 ^ l.length := Nat.mul_le_mul_right _ h2
    omega

theorem less_eq : ∀ l m : List UInt8, l.length = m.length → Op.bytesLess l m = decide (Lib.beNat l < Lib.beNat m)
  | [], [], _ => by decide
  | [], _ :: _, h => by simp at h
  | _ :: _, [], h => by simp at h
  | a :: x, b :: y, h => by
    have hl : x.length = y.length := by simpa using h
    have ih := less_eq x y hl
    have h1 := beNat_lt x
    have h2 := beNat_lt y
    rw [hl] at h1
    rw [Op.bytesLess, beNat_cons, beNat_cons, hl, ih]
    generalize 256 ^ y.length = q at *
    rw [Bool.eq_iff_iff]
    simp only [Bool.or_eq_true, Bool.and_eq_true, decide_eq_true_eq, beq_iff_eq, UInt8.lt_iff_toNat_lt]
    have e : a = b ↔ a.toNat = b.toNat := UInt8.toNat_inj.symm
    rw [e]
    generalize a.toNat = p at *
    generalize b.toNat = r at *
    constructor
    · rintro (hp | ⟨rfl, hp⟩)
      · have : (p + 1) * q ≤ r * q := Nat.mul_le_mul_right _ hp
        rw [Nat.add_mul] at this
        omega
      · omega
    · intro hh
      rcases Nat.lt_trichotomy p r with hp | rfl | hp
      · exact .inl hp
      · exact .inr ⟨rfl, by omega⟩
      · have : (r + 1) * q ≤ p * q := Nat.mul_le_mul_right _ hp
        rw [Nat.add_mul] at this
        omega

theorem beNat_append (l m : List UInt8) : Lib.beNat (l ++ m) = Lib.beNat l * 256 ^ m.length + Lib.beNat m := by
  induction l with
  | nil => simp [Lib.beNat, Lib.beFrom]
  | cons a l ih => rw [List.cons_append, beNat_cons, beNat_cons, ih, List.length_append, Nat.pow_add, Nat.add_mul, Nat.mul_assoc, Nat.add_assoc]

/-- The key: two numbers of eight bytes. -/
def keyL (h c : Nat) : List UInt8 := Lib.beBytes 8 h ++ Lib.beBytes 8 c

theorem keyL_length (h c : Nat) : (keyL h c).length = 16 := by simp [keyL, Lib.beBytes_length]

theorem keyL_nat (h c : Nat) (hh : h < 18446744073709551616) (hc : c < 18446744073709551616) : Lib.beNat (keyL h c) = h * 18446744073709551616 + c := by
  rw [keyL, beNat_append, Lib.beNat_beBytes 8 h (by omega), Lib.beNat_beBytes 8 c (by omega), Lib.beBytes_length]

theorem key_less (h c h' c' : Nat) (hh : h < 18446744073709551616) (hc : c < 18446744073709551616) (hh' : h' < 18446744073709551616) (hc' : c' < 18446744073709551616) :
    Op.bytesLess (keyL h c) (keyL h' c') = decide (h < h' ∨ h = h' ∧ c < c') := by
  rw [less_eq _ _ (by rw [keyL_length, keyL_length]), keyL_nat h c hh hc, keyL_nat h' c' hh' hc']
  congr 1
  rw [eq_iff_iff]
  omega

theorem key_eq (h c h' c' : Nat) (hh : h < 18446744073709551616) (hc : c < 18446744073709551616) (hh' : h' < 18446744073709551616) (hc' : c' < 18446744073709551616) :
    (keyL h c == keyL h' c') = decide (h = h' ∧ c = c') := by
  rw [Bool.eq_iff_iff]
  simp only [beq_iff_eq, decide_eq_true_eq]
  constructor
  · intro e
    have := congrArg Lib.beNat e
    rw [keyL_nat h c hh hc, keyL_nat h' c' hh' hc'] at this
    omega
  · rintro ⟨rfl, rfl⟩; rfl

/-! ### The sign bit -/
theorem xor_top (a : Nat) (h : a < 2 ^ 63) : a ^^^ 2 ^ 63 = 2 ^ 63 + a := by
  apply Nat.eq_of_testBit_eq
  intro j
  rw [Nat.testBit_xor, Nat.testBit_two_pow]
  rcases Nat.lt_trichotomy j 63 with hj | rfl | hj
  · rw [Nat.testBit_two_pow_add_gt hj]
    have : decide (63 = j) = false := by simp; omega
    rw [this]; simp
  · rw [Nat.testBit_two_pow_add_eq]; simp
  · have h1 : a.testBit j = false := Nat.testBit_lt_two_pow (Nat.lt_of_lt_of_le h (Nat.pow_le_pow_right (by omega) (by omega)))
    have h2 : (2 ^ 63 + a).testBit j = false := Nat.testBit_lt_two_pow (Nat.lt_of_lt_of_le (show 2 ^ 63 + a < 2 ^ 64 by omega) (Nat.pow_le_pow_right (by omega) (by omega)))
    have : decide (63 = j) = false := by simp; omega
    rw [h1, h2, this]; rfl

theorem xor_any (a : Nat) (h : a < 18446744073709551616) : a ^^^ 9223372036854775808 = (a + 9223372036854775808) % 18446744073709551616 := by
  have e : (9223372036854775808 : Nat) = 2 ^ 63 := by decide
  by_cases hs : a < 2 ^ 63
  · rw [e, xor_top a hs]; omega
  · have hb := xor_top (a - 2 ^ 63) (by omega)
    have : a = (a - 2 ^ 63) ^^^ 2 ^ 63 := by rw [hb]; omega
    rw [e]
    conv => lhs; rw [this, Nat.xor_assoc, Nat.xor_self, Nat.xor_zero]
    omega
end Go.Proofs.Qxb6614561a
