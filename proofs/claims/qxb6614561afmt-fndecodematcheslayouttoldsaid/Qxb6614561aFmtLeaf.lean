/-
  THE WALKS of the small functions: zBE, zBytesEq, zzBytes.
-/
import Derived.Test.Qxb6614561aFmtProg
import Derived.Test.Qxb6614561aFmtPlain
import Derived.WalkKit
import Derived.WalkSpells
import Derived.WalkLawsBesides
import Derived.Below
import Derived.Deep.QuietTactic
import Derived.BigQuiet
import Derived.Outline
namespace Go.Proofs.Qxb6614561aFmt
open Go Go.RowKit

/-- Block g holds (at least) the bytes bs, from its first cell on. -/
def Bs (w : World) (g : Nat) (bs : List UInt8) : Prop := ∀ j (h : j < bs.length), w.cell? ⟨g, j, none⟩ = some (.int .u8 (bs[j].toNat : Int))

theorem ret_int {k : IntKind} {a b : Int} (h : a = b) : Ending.returned (.int k a) = .returned (.int k b) := by rw [h]
theorem ret_bool {a b : Bool} (h : a = b) : Ending.returned (.bool a) = .returned (.bool b) := by rw [h]

theorem zz_ok (ao : Option Addr) (n c : Nat) (h : n ≤ 1048576) (w : World) : Calls Tryf.prog 4 #[.slice ao n c] w fun e w' => e = .returned (.bool true) ∧ w' = w := by
  have h' : ¬ (1048576 : Int) < n := by omega
  go_enter Tryf.func4, Tryf.ntmps4
  go_wp2
  go_ret
  exact ⟨rfl, rfl⟩

theorem zz_long (ao : Option Addr) (n c : Nat) (h : 1048576 < n) (w : World) : Calls Tryf.prog 4 #[.slice ao n c] w fun e w' => e = .returned (.bool false) ∧ w' = w := by
  have h' : (1048576 : Int) < n := by omega
  go_enter Tryf.func4, Tryf.ntmps4
  go_wp2
  go_ret
  exact ⟨rfl, rfl⟩

set_option maxHeartbeats 1000000 in
theorem zBE_any (g n c : Nat) (bs : List UInt8) (P : Int) (p k : Nat) (hP : P = p) (w : World) (hb : Bs w g bs) (hn : bs.length = n) (hk : k ≤ 8) (hpk : p + k ≤ n) (hmax : n ≤ 1048576) :
    Calls Tryf.prog 11 #[.slice (some ⟨g, 0, none⟩) n c, .int .i64 P, .int .i64 k] w fun e w' => e = .returned (.int .u64 (be bs p k)) ∧ w' = w := by
  subst hP
  have Hb : Hid (Bs w g bs) := hb
  have Hn : Hid (bs.length = n) := hn
  clear hb hn
  go_enter Tryf.func11, Tryf.ntmps11
  go_wp2
  go_loop [7, 8] (fun v i => ∃ j X : Nat, j ≤ k ∧ i = .int .i64 j ∧ v = .int .u64 X ∧ Hid (X = be bs p j)) (fun _ i => k - (intOf i).toNat)
  case atStart => exact ⟨0, 0, by omega, rfl, rfl, (be_zero bs p).symm⟩
  case round =>
    obtain ⟨j, X, hj, rfl, rfl, hX⟩ := hrel
    by_cases hlt : j < k
    · have hlt' : (j : Int) < k := by omega
      have h1 : (p : Int) + j < n := by omega
      have h2 : (0 : Int) ≤ (p : Int) + j := by omega
      have hpj : p + j < bs.length := by rw [Hn.out]; omega
      have hcell : w.cell? ⟨g, p + j, none⟩ = some (.int .u8 (bs[p + j].toNat : Int)) := Hb.out (p + j) hpj
      have e1 := be_succ bs p j hpj
      have b1 := be_lt7 bs p j (by omega)
      rw [← hX.out] at e1 b1
      have E1 : Hid (be bs p (j + 1) = X * 256 + bs[p + j].toNat) := e1
      clear e1
      have hub : bs[p + j].toNat < 256 := UInt8.toNat_lt _
      generalize bs[p + j].toNat = B at *
      go_wp2
      go_round
      case rel => exact ⟨j + 1, _, by omega, by go_num, by rw [or_plain X B b1 hub], E1.out.symm⟩
      case measure => simp [intOf]; omega
    · have hlt' : ¬ (j : Int) < k := by omega
      go_wp2
      go_ret
      exact ⟨ret_int (by obtain rfl : j = k := by omega
                         rw [hX.out]), rfl⟩

theorem bytesEq_zero (ao bo : Option Addr) (c d : Nat) (w : World) : Calls Tryf.prog 10 #[.slice ao 0 c, .slice bo 0 d] w fun e w' => e = .returned (.bool true) ∧ w' = w := by
  go_enter Tryf.func10, Tryf.ntmps10
  go_wp2
  go_loop [5] (fun i => i = .int .i64 0) (fun _ => 0)
  case atStart => rfl
  case round =>
    obtain rfl := hrel
    go_wp2
    go_ret
    exact ⟨rfl, rfl⟩

set_option maxHeartbeats 1000000 in
theorem bytesEq_any (g1 q1 c1 g2 q2 c2 m : Nat) (l : List UInt8) (w : World) (hl : l.length = m) (hm : m ≤ 1048576)
    (ha : ∀ j (h : j < l.length), w.cell? ⟨g1, q1 + j, none⟩ = some (.int .u8 (l[j].toNat : Int))) (hb : ∀ j (h : j < l.length), w.cell? ⟨g2, q2 + j, none⟩ = some (.int .u8 (l[j].toNat : Int))) :
    Calls Tryf.prog 10 #[.slice (some ⟨g1, q1, none⟩) m c1, .slice (some ⟨g2, q2, none⟩) m c2] w fun e w' => e = .returned (.bool true) ∧ Below w.heap.size w w' := by
  have Ha : Hid (∀ j (h : j < l.length), w.cell? ⟨g1, q1 + j, none⟩ = some (.int .u8 (l[j].toNat : Int))) := ha
  have Hb : Hid (∀ j (h : j < l.length), w.cell? ⟨g2, q2 + j, none⟩ = some (.int .u8 (l[j].toNat : Int))) := hb
  have Hl : Hid (l.length = m) := hl
  clear ha hb hl
  have hne : ((m : Int) != m) = false := by simp
  go_enter Tryf.func10, Tryf.ntmps10
  go_wp2
  go_loopw [5] (fun i wx => ∃ j k : Nat, j ≤ m ∧ i = .int .i64 j ∧ wx = w.drewN k) (fun i _ => m - (intOf i).toNat)
  case atStart => exact ⟨0, 0, by omega, rfl, rfl⟩
  case round =>
    obtain ⟨j, k, hj, rfl, rfl⟩ := hrel
    by_cases hlt : j < m
    · have hlt' : (j : Int) < m := by omega
      have hjl : j < l.length := by rw [Hl.out]; exact hlt
      have hca : w.cell? ⟨g1, q1 + j, none⟩ = some (.int .u8 (l[j].toNat : Int)) := Ha.out j hjl
      have hcb : w.cell? ⟨g2, q2 + j, none⟩ = some (.int .u8 (l[j].toNat : Int)) := Hb.out j hjl
      generalize l[j].toNat = B at *
      go_wp2
      go_quiet (fail)
      go_wp2
      exact ⟨⟨j + 1, k + nq, by omega, by go_num, rfl⟩, by simp [intOf]; omega⟩
    · have hlt' : ¬ (j : Int) < m := by omega
      go_wp2
      go_ret
      exact ⟨rfl, below_drewN (Below.refl _ _) k⟩
end Go.Proofs.Qxb6614561aFmt
