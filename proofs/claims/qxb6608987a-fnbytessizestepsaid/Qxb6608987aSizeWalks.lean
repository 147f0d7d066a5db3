/-
  THE WALKS: BytesSize and bsIsPow128.
-/
import Derived.Test.Qxb6608987aLen64
import Derived.Test.Qxb6608987aPlain
import Derived.WalkKit
import Derived.WalkSpells
import Derived.Below
namespace Go.Proofs.Qxb6608987a
open Go Go.RowKit

theorem ret_int {k : IntKind} {a b : Int} (h : a = b) : Ending.returned (.int k a) = .returned (.int k b) := by rw [h]
theorem ret_bool {a b : Bool} (h : a = b) : Ending.returned (.bool a) = .returned (.bool b) := by rw [h]

theorem or_one (n : Nat) : n ||| 1 = n / 2 * 2 + 1 := by
  have h1 : (n ||| 1) / 2 = n / 2 := by rw [Nat.or_div_two]; simp
  have h2 : (n ||| 1) % 2 = 1 := Nat.or_mod_two_eq_one.2 (.inr rfl)
  omega

theorem or_bits (n : Nat) (h : n ≤ 9223372036854775797) : bits BinOp.or IntKind.u64 (n : Int) 1 = ((n / 2 * 2 + 1 : Nat) : Int) := by
  have := u64_or_nat n 1 (by omega) (by omega)
  rw [or_one] at this
  exact this

set_option maxHeartbeats 400000 in
theorem size_any (m : Int) (n : Nat) (hm : m = n) (h : n ≤ 9223372036854775797) (w : World) :
    Calls Try.prog 5 #[.int .i64 m] w fun e w' => e = .returned (.int .i64 ((dg n : Int) + n)) ∧ w' = w := by
  subst hm
  have hb := dg_bd n (by omega)
  have hbl : Lib.bitLen (n / 2 * 2 + 1) ≤ 64 := bitLen_le 64 _
  have hl := bits_Len64 ((n / 2 * 2 + 1 : Nat) : Int) w (by omega) (by omega)
  rw [Int.toNat_natCast] at hl
  have hdg : Hid (((Lib.bitLen (n / 2 * 2 + 1) : Int) + 6) / 7 = (dg n : Int)) := by unfold Hid dg; omega
  generalize Lib.bitLen (n / 2 * 2 + 1) = l at *
  generalize dg n = d at *
  go_enter Try.func5, Try.ntmps5
  go_wp2_with fail
  rw [or_bits n h]
  refine hl.mono ?_
  rintro e w' ⟨rfl, rfl⟩
  go_wp2
  go_ret
  exact ⟨ret_int (by have := hdg.out; omega), rfl⟩

theorem pow_small (p : Int) (h : p < 128) (w : World) : Calls Try.prog 6 #[.int .i64 p] w fun e w' => e = .returned (.bool false) ∧ w' = w := by
  go_enter Try.func6, Try.ntmps6
  go_wp2
  go_ret
  exact ⟨rfl, rfl⟩

/-- It returns a bool that tells whether p is 128 to a power of at least one. -/
def Tells (p : Nat) (e : Ending) : Prop := ∃ r : Bool, e = .returned (.bool r) ∧ (r = true ↔ Pw p)

theorem pow_any (m : Int) (p : Nat) (hm : m = p) (h : 128 ≤ p) (hx : p ≤ 9223372036854775807) (w : World) :
    Calls Try.prog 6 #[.int .i64 m] w fun e w' => Tells p e ∧ w' = w := by
  subst hm
  have h' : ¬ (p : Int) < 128 := by omega
  go_enter Try.func6, Try.ntmps6
  go_wp2
  go_loop [0] (fun t => ∃ q : Nat, 1 ≤ q ∧ q ≤ 9223372036854775807 ∧ t = .int .i64 q ∧ ((q = 1 ∨ Pw q) ↔ Pw p)) (fun t => (intOf t).toNat)
  case atStart => exact ⟨p, by omega, hx, rfl, by constructor; (rintro (h1 | h1); omega; exact h1); exact .inr⟩
  case round =>
    obtain ⟨q, hq1, hq2, rfl, hq⟩ := hrel
    have HQ : Hid ((q = 1 ∨ Pw q) ↔ Pw p) := hq
    clear hq h
    by_cases hm : q % 128 = 0
    · have hm' : (q : Int) % 128 = 0 := by omega
      go_wp2
      go_round
      case rel => exact ⟨q / 128, by omega, by omega, by go_num, by rw [← HQ.out]; have := pw_step q hm (by omega); rw [this]; constructor; exact .inr; (rintro (h1 | h1); omega; exact h1)⟩
      case measure => simp [intOf]; omega
    · have hm' : ((q : Int) % 128 == 0) = false := by simpa using by omega
      go_wp2
      go_ret
      refine ⟨⟨_, rfl, ?_⟩, rfl⟩
      have := HQ.out
      have h2 := pw_mod q hm
      simp [← this, h2]
      omega
end Go.Proofs.Qxb6608987a
