/-
  THE WALK of the decoder's 'number'.
-/
import Derived.Test.Qxb6614561aFmtTake
namespace Go.Proofs.Qxb6614561aFmt
open Go Go.RowKit

set_option maxHeartbeats 2000000 in
/-- 'number(8, ..)' where just eight bytes are left. -/
theorem number8_all (D g q : Nat) (N : Int) (what : ByteArray) (w : World) (h : Dec w D (.slice (some ⟨g, q, none⟩) 8 8) false)
    (hu : ∀ w1 : World, Below w.heap.size w w1 → Calls Tryf.prog 17 #[.agg #[], .slice (some ⟨g, q, none⟩) 8 8] w1 fun e w' => e = .returned (.int .u64 N) ∧ Below w1.heap.size w1 w') :
    Calls Tryf.prog 13 #[.pointer (some ⟨D, 0, none⟩), .int .i64 8, .string what] w fun e w' => e = .returned (.int .u64 N) ∧ Dec w' D (.slice (some ⟨g, q, none⟩) 0 0) false ∧ Below D w w' := by
  have hlt := h.lt
  obtain ⟨s, ov, wt, hD⟩ := h
  have HD : Hid (w.heap[D]? = some (.cells #[.slice (some ⟨g, q, none⟩) 8 8, .string s, .bool false, .string ov, .int .i64 wt] 45 (0, 0))) := hD
  have c0 : w.cell? ⟨D, 0, none⟩ = some (.slice (some ⟨g, q, none⟩) 8 8) := by simp [World.cell?, hD]
  have c2 : w.cell? ⟨D, 2, none⟩ = some (.bool false) := by simp [World.cell?, hD]
  have f0 : w.frozen? ⟨D, 0, none⟩ = false := by simp [World.frozen?, hD]
  clear hD
  have HU : Hid (∀ w1 : World, Below w.heap.size w w1 → Calls Tryf.prog 17 #[.agg #[], .slice (some ⟨g, q, none⟩) 8 8] w1 fun e w' => e = .returned (.int .u64 N) ∧ Below w1.heap.size w1 w') := hu
  clear hu
  go_enter Tryf.func13, Tryf.ntmps13
  go_wp2
  go_region_with (go_at_call 17; refine (HU.out _ ((Below.refl _ _).drew)).mono ?_; rintro e w1 ⟨rfl, hb1⟩)
  all_goals
    have c0' : w1.cell? ⟨D, 0, none⟩ = some (.slice (some ⟨g, q, none⟩) 8 8) := (hb1.cell (p := ⟨D, 0, none⟩) hlt).trans c0
    have f0' : w1.frozen? ⟨D, 0, none⟩ = false := (hb1.frozen (p := ⟨D, 0, none⟩) hlt).trans f0
    have HD1 : Hid (w1.heap[D]? = some (.cells #[.slice (some ⟨g, q, none⟩) 8 8, .string s, .bool false, .string ov, .int .i64 wt] 45 (0, 0))) := (hb1.block D hlt).trans HD.out
    have HB1 : Hid (Below D w w1) := ((Below.refl D w).drew).trans (hb1.mono (Nat.le_of_lt hlt))
    clear hb1 c0 f0 HD
    go_wp2
    go_ret
    exact ⟨rfl, ⟨s, ov, wt, heap_setCell_at HD1.out⟩, HB1.out.setCell (p := ⟨D, 0, none⟩) (Nat.le_refl _) _⟩

set_option maxHeartbeats 2000000 in
/-- 'number(8, ..)' where more than eight bytes are left. -/
theorem number8_more (D g q m : Nat) (N : Int) (what : ByteArray) (hm8 : 8 < m) (hm : m ≤ 1048576) (w : World) (h : Dec w D (.slice (some ⟨g, q, none⟩) m m) false)
    (hu : ∀ w1 : World, Below w.heap.size w w1 → Calls Tryf.prog 17 #[.agg #[], .slice (some ⟨g, q, none⟩) m m] w1 fun e w' => e = .returned (.int .u64 N) ∧ Below w1.heap.size w1 w') :
    Calls Tryf.prog 13 #[.pointer (some ⟨D, 0, none⟩), .int .i64 8, .string what] w fun e w' => e = .returned (.int .u64 N) ∧ Dec w' D (.slice (some ⟨g, q + 8, none⟩) (m - 8) (m - 8)) false ∧ Below D w w' := by
  have hlt := h.lt
  obtain ⟨s, ov, wt, hD⟩ := h
  have HD : Hid (w.heap[D]? = some (.cells #[.slice (some ⟨g, q, none⟩) m m, .string s, .bool false, .string ov, .int .i64 wt] 45 (0, 0))) := hD
  have c0 : w.cell? ⟨D, 0, none⟩ = some (.slice (some ⟨g, q, none⟩) m m) := by simp [World.cell?, hD]
  have c2 : w.cell? ⟨D, 2, none⟩ = some (.bool false) := by simp [World.cell?, hD]
  have f0 : w.frozen? ⟨D, 0, none⟩ = false := by simp [World.frozen?, hD]
  clear hD
  have hm8' : (8 : Int) ≤ m := by omega
  have hne : ¬ m = 8 := by omega
  have HU : Hid (∀ w1 : World, Below w.heap.size w w1 → Calls Tryf.prog 17 #[.agg #[], .slice (some ⟨g, q, none⟩) m m] w1 fun e w' => e = .returned (.int .u64 N) ∧ Below w1.heap.size w1 w') := hu
  clear hu
  go_enter Tryf.func13, Tryf.ntmps13
  go_wp2
  go_region_with (go_at_call 17; refine (HU.out _ ((Below.refl _ _).drew)).mono ?_; rintro e w1 ⟨rfl, hb1⟩)
  all_goals
    have c0' : w1.cell? ⟨D, 0, none⟩ = some (.slice (some ⟨g, q, none⟩) m m) := (hb1.cell (p := ⟨D, 0, none⟩) hlt).trans c0
    have f0' : w1.frozen? ⟨D, 0, none⟩ = false := (hb1.frozen (p := ⟨D, 0, none⟩) hlt).trans f0
    have HD1 : Hid (w1.heap[D]? = some (.cells #[.slice (some ⟨g, q, none⟩) m m, .string s, .bool false, .string ov, .int .i64 wt] 45 (0, 0))) := (hb1.block D hlt).trans HD.out
    have HB1 : Hid (Below D w w1) := ((Below.refl D w).drew).trans (hb1.mono (Nat.le_of_lt hlt))
    clear hb1 c0 f0 HD
    go_wp2
    go_ret
    exact ⟨rfl, ⟨s, ov, wt, heap_setCell_at HD1.out⟩, HB1.out.setCell (p := ⟨D, 0, none⟩) (Nat.le_refl _) _⟩


set_option maxHeartbeats 1000000 in
/-- 'number(k, ..)' where 'take' hands back nil: 0. -/
theorem number_none (D : Nat) (k : Int) (what : ByteArray) (w : World) (R : World → Prop) (ao : Option Addr) (m c : Nat) (sh : Bool)
    (c0 : w.cell? ⟨D, 0, none⟩ = some (.slice ao m c)) (c2 : w.cell? ⟨D, 2, none⟩ = some (.bool sh))
    (hk8 : ((k == 8) = false) ∨ (k = 8 ∧ ((m : Int) < 8 ∨ ((8 : Int) ≤ m ∧ sh = true))))
    (ht : Calls Tryf.prog 15 #[.pointer (some ⟨D, 0, none⟩), .int .i64 k, .string what] w fun e w' => e = .returned (.slice none 0 0) ∧ R w') :
    Calls Tryf.prog 13 #[.pointer (some ⟨D, 0, none⟩), .int .i64 k, .string what] w fun e w' => e = .returned (.int .u64 0) ∧ R w' := by
  have HT : Hid (Calls Tryf.prog 15 #[.pointer (some ⟨D, 0, none⟩), .int .i64 k, .string what] w fun e w' => e = .returned (.slice none 0 0) ∧ R w') := ht
  clear ht
  rcases hk8 with hk | ⟨rfl, hk | ⟨hk, rfl⟩⟩
  all_goals
    go_enter Tryf.func13, Tryf.ntmps13
    go_wp2_with (go_at_call 15; refine HT.out.mono ?_; rintro e w1 ⟨rfl, hR⟩)
    go_loop [8, 48] (fun x i => x = .int .u64 0 ∧ i = .int .i64 0) (fun _ _ => 0)
    case atStart => exact ⟨rfl, rfl⟩
    case round =>
      obtain ⟨rfl, rfl⟩ := hrel
      go_wp2
      go_ret
      exact ⟨rfl, hR⟩

set_option maxHeartbeats 1000000 in
/-- 'number(k, ..)' where 'take' hands back k bytes (k is not 8): the number that they spell. -/
theorem number_some (D : Nat) (K : Int) (k : Nat) (what : ByteArray) (w : World) (R : World → Prop) (g q c : Nat) (l : List UInt8)
    (hk : (K == 8) = false) (hl : l.length = k) (hk8 : k ≤ 8)
    (ht : Calls Tryf.prog 15 #[.pointer (some ⟨D, 0, none⟩), .int .i64 K, .string what] w fun e w' => e = .returned (.slice (some ⟨g, q, none⟩) k c) ∧ (∀ j (h : j < l.length), w'.cell? ⟨g, q + j, none⟩ = some (.int .u8 (l[j].toNat : Int))) ∧ R w') :
    Calls Tryf.prog 13 #[.pointer (some ⟨D, 0, none⟩), .int .i64 K, .string what] w fun e w' => e = .returned (.int .u64 (be l 0 k)) ∧ R w' := by
  have HT : Hid (Calls Tryf.prog 15 #[.pointer (some ⟨D, 0, none⟩), .int .i64 K, .string what] w fun e w' => e = .returned (.slice (some ⟨g, q, none⟩) k c) ∧ (∀ j (h : j < l.length), w'.cell? ⟨g, q + j, none⟩ = some (.int .u8 (l[j].toNat : Int))) ∧ R w') := ht
  have Hl : Hid (l.length = k) := hl
  clear ht hl
  go_enter Tryf.func13, Tryf.ntmps13
  go_wp2_with (go_at_call 15; refine HT.out.mono ?_; rintro e w1 ⟨rfl, hc, hR⟩; have Hc : Hid (∀ j (h : j < l.length), w1.cell? ⟨g, q + j, none⟩ = some (.int .u8 (l[j].toNat : Int))) := hc; clear hc)
  go_loop [8, 48, 10] (fun v i _ => ∃ j X : Nat, j ≤ k ∧ i = .int .i64 j ∧ v = .int .u64 X ∧ Hid (X = be l 0 j)) (fun _ i _ => k - (intOf i).toNat)
  case atStart => exact ⟨0, 0, by omega, rfl, rfl, (be_zero l 0).symm⟩
  case round =>
    obtain ⟨j, X, hj, rfl, rfl, hX⟩ := hrel
    by_cases hlt : j < k
    · have hlt' : (j : Int) < k := by omega
      have hjl : 0 + j < l.length := by rw [Hl.out]; omega
      have hcell : w1.cell? ⟨g, q + j, none⟩ = some (.int .u8 (l[0 + j].toNat : Int)) := by
        have := Hc.out j (by omega)
        simpa using this
      have e1 := be_succ l 0 j hjl
      have b1 := be_lt7 l 0 j (by omega)
      rw [← hX.out] at e1 b1
      have E1 : Hid (be l 0 (j + 1) = X * 256 + l[0 + j].toNat) := e1
      clear e1
      have hub : l[0 + j].toNat < 256 := UInt8.toNat_lt _
      generalize l[0 + j].toNat = B at *
      go_wp2
      go_round
      case rel => exact ⟨j + 1, _, by omega, by go_num, by rw [or_plain X B b1 hub], E1.out.symm⟩
      case measure => simp [intOf]; omega
    · have hlt' : ¬ (j : Int) < k := by omega
      go_wp2
      go_ret
      exact ⟨ret_int (by obtain rfl : j = k := by omega
                         rw [hX.out]), hR⟩
end Go.Proofs.Qxb6614561aFmt
