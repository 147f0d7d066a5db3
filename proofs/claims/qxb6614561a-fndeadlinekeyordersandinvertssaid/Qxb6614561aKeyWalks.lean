/-
  THE WALKS: AppendUint64 (after the shelf's own walk of it), key, ZZdeadlineKey, zKeyReads.
-/
import Derived.Test.Qxb6614561aProg
import Derived.Test.Qxb6614561aPlain
import Derived.Lib.Walk
import Derived.Lib.Endian
import Derived.Lib.EndianBits
import Derived.WalkKit
import Derived.WalkSpells
import Derived.WalkLawsBesides
import Derived.Lib.Slices
import Derived.OwnWalk
import Derived.RegionTactic
import Derived.Deep.RegionWith
import Derived.Deep.Draws
namespace Go.Proofs.Qxb6614561a
open Go Go.RowKit

theorem info5 : ∃ i, Try.prog.info? 5 = some i ∧ i.zero = some (.int .u8 0) ∧ i.size = 1 ∧ i.bytes = 1 := ⟨_, rfl, rfl, rfl, rfl⟩

set_option maxHeartbeats 2000000 in
set_option maxRecDepth 100000 in
theorem append64 (B n v : Nat) (hv : v < 18446744073709551616) (sv : Value) (xs : List Value) (w : World) (hown : w.ownsRow B 5 1 sv n xs) (hBw : B ≤ w.heap.size) (hlim : n + 8 ≤ 140737488355328) :
    Calls Try.prog 7 #[.agg #[], sv, .int .u64 v] w fun e w' => ∃ v', e = .returned v' ∧ w'.ownsRow B 5 1 v' (n + 8) (xs ++ Lib.byteCells (Lib.beBytes 8 v)) ∧ Below B w w' := by
  obtain ⟨i0, hi, hz0, hz1, hz2⟩ := info5
  have e0 : ((v % 256 : Nat) : Int) = (v : Int) % 256 := by omega
  have e1 : ((v / 256 % 256 : Nat) : Int) = (v : Int) / 256 % 256 := by omega
  have e2 : ((v / 256 / 256 % 256 : Nat) : Int) = (v : Int) / 65536 % 256 := by omega
  have e3 : ((v / 256 / 256 / 256 % 256 : Nat) : Int) = (v : Int) / 16777216 % 256 := by omega
  have e4 : ((v / 256 / 256 / 256 / 256 % 256 : Nat) : Int) = (v : Int) / 4294967296 % 256 := by omega
  have e5 : ((v / 256 / 256 / 256 / 256 / 256 % 256 : Nat) : Int) = (v : Int) / 1099511627776 % 256 := by omega
  have e6 : ((v / 256 / 256 / 256 / 256 / 256 / 256 % 256 : Nat) : Int) = (v : Int) / 281474976710656 % 256 := by omega
  have e7 : ((v / 256 / 256 / 256 / 256 / 256 / 256 / 256 % 256 : Nat) : Int) = (v : Int) / 72057594037927936 := by omega
  have hb : Lib.byteCells (Lib.beBytes 8 v) = [Value.int .u8 ((v : Int) / 72057594037927936), Value.int .u8 ((v : Int) / 281474976710656 % 256), Value.int .u8 ((v : Int) / 1099511627776 % 256), Value.int .u8 ((v : Int) / 4294967296 % 256), Value.int .u8 ((v : Int) / 16777216 % 256), Value.int .u8 ((v : Int) / 65536 % 256), Value.int .u8 ((v : Int) / 256 % 256), Value.int .u8 ((v : Int) % 256)] := by
    simp only [Lib.byteCells, Lib.beBytes, Lib.leBytes, List.reverse_cons, List.reverse_nil, List.nil_append, List.cons_append, List.map, Lib.toUInt8_mod, e0, e1, e2, e3, e4, e5, e6, e7]
  go_enter Try.func7, Try.ntmps7
  go_wp2_with (at_builtin; refine wpList_append_own _ rfl _ _ 30 rfl B 5 i0 (.int .u8 0) 1 1 Try.underlying30 hi hz0 hz1 hz2 rfl (by decide) _ _ _ rfl ((hown.alloc _).alloc _) _ 8 8 [Value.int .u8 ((v : Int) / 72057594037927936), Value.int .u8 ((v : Int) / 281474976710656 % 256), Value.int .u8 ((v : Int) / 1099511627776 % 256), Value.int .u8 ((v : Int) / 4294967296 % 256), Value.int .u8 ((v : Int) / 16777216 % 256), Value.int .u8 ((v : Int) / 65536 % 256), Value.int .u8 ((v : Int) / 256 % 256), Value.int .u8 ((v : Int) % 256)] rfl rfl ?c1 ?c2 ?c3 ?c4 ?c5 ?_)
  case c1 =>
    intro j u hj
    match j, hj with
    | 0, hj => simp at hj; subst hj; simp [Addr.add]
    | 1, hj => simp at hj; subst hj; simp [Addr.add]
    | 2, hj => simp at hj; subst hj; simp [Addr.add]
    | 3, hj => simp at hj; subst hj; simp [Addr.add]
    | 4, hj => simp at hj; subst hj; simp [Addr.add]
    | 5, hj => simp at hj; subst hj; simp [Addr.add]
    | 6, hj => simp at hj; subst hj; simp [Addr.add]
    | 7, hj => simp at hj; subst hj; simp [Addr.add]
  case c2 => intro u hu; simp at hu; rcases hu with rfl | rfl | rfl | rfl | rfl | rfl | rfl | rfl <;> rfl
  case c3 => unfold maxLen; omega
  case c4 => omega
  case c5 => simp; omega
  intro v' w2 hown' hgrow _
  go_wp2
  go_ret
  refine ⟨v', rfl, by rw [hb]; exact hown', ?_⟩
  exact ((((Below.refl B w).alloc hBw _).alloc (by simp; omega) _).grown hgrow (by simp; omega) (fun k hk => (hown.lt k hk).1))
end Go.Proofs.Qxb6614561a
