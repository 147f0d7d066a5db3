/-
  THE WALKS of ZZdeadlineKey and zKeyReads.
-/
import Derived.Test.Qxb6614561aKeyCalls
namespace Go.Proofs.Qxb6614561a
open Go Go.RowKit

theorem ret_bool {a b : Bool} (h : a = b) : Ending.returned (.bool a) = .returned (.bool b) := by rw [h]

theorem zzkey_any (e c : Int) (he0 : -9223372036854775808 ≤ e) (he1 : e ≤ 9223372036854775807) (hc0 : 0 ≤ c) (hc1 : c ≤ 18446744073709551615) (w : World) :
    Calls Try.prog 4 #[.int .i64 e, .int .u64 c] w fun r w' => r = .returned (.string ⟨(keyL (e + 9223372036854775808).toNat c.toNat).toArray⟩) ∧ Below w.heap.size w w' := by
  have hk : Hid (∀ w : World, Calls Try.prog 6 #[.agg #[.int .i64 e, .int .u64 c]] w fun r w' => r = .returned (.string ⟨(keyL (e + 9223372036854775808).toNat c.toNat).toArray⟩) ∧ Below w.heap.size w w') := fun w => key_any e c he0 he1 hc0 hc1 w
  generalize (⟨(keyL (e + 9223372036854775808).toNat c.toNat).toArray⟩ : ByteArray) = s at *
  go_enter Try.func4, Try.ntmps4
  go_wp2_with (go_at_call 6; refine (hk.out _).mono ?_; rintro r w' ⟨rfl, hb⟩)
  go_ret
  exact ⟨rfl, hb⟩

/-- One round of reading: 'x<<8 | b'. -/
theorem or_step (x b : Nat) (hx : x < 72057594037927936) (hb : b < 256) : bits BinOp.or IntKind.u64 (IntKind.u64.wrap ((x : Int) * 256)) (IntKind.u64.wrap (b : Int)) = ((x * 256 + b : Nat) : Int) := by
  rw [IntKind.wrap_u64, IntKind.wrap_u64]
  have e1 : (x : Int) * 256 % 18446744073709551616 = ((x * 256 : Nat) : Int) := by omega
  have e2 : (b : Int) % 18446744073709551616 = (b : Int) := by omega
  rw [e1, e2, u64_or_nat (x * 256) b (by omega) (by omega)]
  have := Nat.two_pow_add_eq_or_of_lt (i := 8) (b := b) (by omega) x
  rw [Nat.mul_comm x 256]
  rw [show (256 : Nat) = 2 ^ 8 from rfl, ← this]

theorem back_sign (e : Int) (he0 : -9223372036854775808 ≤ e) (he1 : e ≤ 9223372036854775807) :
    wrap64 (bits BinOp.xor IntKind.u64 (((e + 9223372036854775808).toNat : Nat) : Int) 9223372036854775808) = e := by
  have := bits_xor_u64_nat (e + 9223372036854775808).toNat 9223372036854775808 (by omega) (by omega)
  rw [xor_any _ (by omega)] at this
  rw [show ((9223372036854775808 : Nat) : Int) = 9223372036854775808 from rfl] at this
  rw [this]
  unfold wrap64
  omega

theorem take_step (l : List UInt8) (j : Nat) (h : j < l.length) : Lib.beNat (l.take (j + 1)) = Lib.beNat (l.take j) * 256 + l[j].toNat := by
  rw [List.take_succ_eq_append_getElem h, beNat_append]
  simp [Lib.beNat, Lib.beFrom]

theorem take_bd (l : List UInt8) (j : Nat) (h : j < 8) : Lib.beNat (l.take j) < 72057594037927936 := by
  have h1 := beNat_lt (l.take j)
  have h2 : (l.take j).length ≤ 7 := by have := List.length_take_le j l; omega
  have h3 : 256 ^ (l.take j).length ≤ 256 ^ 7 := Nat.pow_le_pow_right (by omega) h2
  omega

theorem key_at_hi (H C j : Nat) (hj : j < 8) (h : j < (⟨(keyL H C).toArray⟩ : ByteArray).size) : ((⟨(keyL H C).toArray⟩ : ByteArray)[j]'h) = (Lib.beBytes 8 H)[j]'(by rw [Lib.beBytes_length]; exact hj) := by
  show (keyL H C).toArray[j]'h = _
  simp only [List.getElem_toArray]
  exact List.getElem_append_left (by rw [Lib.beBytes_length]; exact hj)

theorem key_at_lo (H C j : Nat) (hj : j < 8) (h : 8 + j < (⟨(keyL H C).toArray⟩ : ByteArray).size) : ((⟨(keyL H C).toArray⟩ : ByteArray)[8 + j]'h) = (Lib.beBytes 8 C)[j]'(by rw [Lib.beBytes_length]; exact hj) := by
  show (keyL H C).toArray[8 + j]'h = _
  simp only [List.getElem_toArray]
  rw [show (keyL H C)[8 + j]'(by rw [keyL_length]; omega) = (Lib.beBytes 8 H ++ Lib.beBytes 8 C)[8 + j]'(by simp [Lib.beBytes_length]; omega) from rfl]
  rw [List.getElem_append_right (by rw [Lib.beBytes_length]; omega)]
  simp [Lib.beBytes_length]

set_option maxHeartbeats 1000000 in
theorem reads_gen (k : ByteArray) (e c : Int) (L M : List UInt8) (H C : Nat) (w : World) (hsz : k.size = 16)
    (hh : ∀ j (hj : j < L.length) (h : j < k.size), k[j] = L[j]) (hl : ∀ j (hj : j < M.length) (h : 8 + j < k.size), k[8 + j] = M[j])
    (hb0 : wrap64 (bits BinOp.xor IntKind.u64 (H : Int) 9223372036854775808) = e) (lh0 : L.length = 8) (ll0 : M.length = 8) (vh0 : Lib.beNat L = H) (vl0 : Lib.beNat M = C) (hcc0 : (C : Int) = c) :
    Calls Try.prog 5 #[.string k, .int .i64 e, .int .u64 c] w fun r w' => r = .returned (.bool true) ∧ w' = w := by
  have hk' : ((k.size : Int) != 16) = false := by rw [hsz]; rfl
  have hk1 : (16 : Int) ≤ k.size := by omega
  have hk2 : (k.size : Int) ≤ 16 := by omega
  have HH : Hid (∀ j (hj : j < L.length) (h : j < k.size), k[j] = L[j]) := hh
  have HL : Hid (∀ j (hj : j < M.length) (h : 8 + j < k.size), k[8 + j] = M[j]) := hl
  have hb : Hid (wrap64 (bits BinOp.xor IntKind.u64 (H : Int) 9223372036854775808) = e) := hb0
  have lh : Hid (L.length = 8) := lh0
  have ll : Hid (M.length = 8) := ll0
  have vh : Hid (Lib.beNat L = H) := vh0
  have vl : Hid (Lib.beNat M = C) := vl0
  have hcc : Hid ((C : Int) = c) := hcc0
  clear hsz hh hl hb0 lh0 ll0 vh0 vl0 hcc0
  go_enter Try.func5, Try.ntmps5
  go_wp2
  go_loop [7, 8, 9] (fun hi lo i => ∃ j X Y : Nat, j ≤ 8 ∧ i = .int .i64 j ∧ hi = .int .u64 X ∧ lo = .int .u64 Y ∧ Hid (X = Lib.beNat (L.take j)) ∧ Hid (Y = Lib.beNat (M.take j))) (fun _ _ i => 8 - (intOf i).toNat)
  case atStart => exact ⟨0, 0, 0, by omega, rfl, rfl, rfl, rfl, rfl⟩
  case round =>
    obtain ⟨j, X, Y, hj, rfl, rfl, rfl, hX, hY⟩ := hrel
    by_cases hlt : j < 8
    · have hlt' : (j : Int) < 8 := by omega
      go_wp2
      go_round
      case rel =>
        have a1 := take_step L j (by rw [lh.out]; exact hlt)
        have a2 := take_step M j (by rw [ll.out]; exact hlt)
        have b1 := take_bd L j hlt
        have b2 := take_bd M j hlt
        rw [← hX.out] at a1 b1
        rw [← hY.out] at a2 b2
        refine ⟨j + 1, _, _, by omega, by go_num, ?_, ?_, a1.symm, a2.symm⟩
        · rw [HH.out j (by rw [lh.out]; exact hlt), or_step _ _ b1 (UInt8.toNat_lt _)]
        · rw [HL.out j (by rw [ll.out]; exact hlt), or_step _ _ b2 (UInt8.toNat_lt _)]
      case measure => simp [intOf]; omega
    · have hlt' : ¬ (j : Int) < 8 := by omega
      obtain rfl : j = 8 := by omega
      have x1 := hX.out
      have y1 := hY.out
      rw [List.take_of_length_le (by rw [lh.out]; omega), vh.out] at x1
      rw [List.take_of_length_le (by rw [ll.out]; omega), vl.out] at y1
      subst x1 y1
      have hb' := hb.out
      have hc' : ((Y : Int) == c) = true := by rw [hcc.out]; simp
      go_wp2
      go_ret
      exact ⟨rfl, rfl⟩

theorem reads_any (e c : Int) (he0 : -9223372036854775808 ≤ e) (he1 : e ≤ 9223372036854775807) (hc0 : 0 ≤ c) (hc1 : c ≤ 18446744073709551615) (w : World) :
    Calls Try.prog 5 #[.string ⟨(keyL (e + 9223372036854775808).toNat c.toNat).toArray⟩, .int .i64 e, .int .u64 c] w fun r w' => r = .returned (.bool true) ∧ w' = w :=
  reads_gen _ e c (Lib.beBytes 8 (e + 9223372036854775808).toNat) (Lib.beBytes 8 c.toNat) _ _ w (by show (keyL _ _).toArray.size = 16; simp [keyL_length])
    (fun j hj h => key_at_hi _ _ j (by rw [Lib.beBytes_length] at hj; exact hj) h) (fun j hj h => key_at_lo _ _ j (by rw [Lib.beBytes_length] at hj; exact hj) h)
    (back_sign e he0 he1) (Lib.beBytes_length _ _) (Lib.beBytes_length _ _) (Lib.beNat_beBytes 8 _ (by omega)) (Lib.beNat_beBytes 8 _ (by omega)) (Int.toNat_of_nonneg hc0)
end Go.Proofs.Qxb6614561a
