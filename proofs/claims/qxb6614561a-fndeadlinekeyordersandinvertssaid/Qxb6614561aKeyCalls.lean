/-
  THE WALK of (deadline).key: sixteen bytes.
-/
import Derived.Test.Qxb6614561aKeyWalks
import Derived.Laws.IdiomStrings
namespace Go.Proofs.Qxb6614561a
open Go Go.RowKit

theorem flip_sign (e : Int) (he0 : -9223372036854775808 ≤ e) (he1 : e ≤ 9223372036854775807) :
    bits BinOp.xor IntKind.u64 (IntKind.u64.wrap e) 9223372036854775808 = (((e + 9223372036854775808).toNat : Nat) : Int) := by
  obtain ⟨a, ha, hb⟩ : ∃ a : Nat, (a : Int) = e % 18446744073709551616 ∧ a < 18446744073709551616 := ⟨(e % 18446744073709551616).toNat, by omega, by omega⟩
  rw [IntKind.wrap_u64, ← ha]
  have := bits_xor_u64_nat a 9223372036854775808 hb (by omega)
  rw [xor_any a hb] at this
  rw [show ((9223372036854775808 : Nat) : Int) = 9223372036854775808 from rfl] at this
  rw [this]
  omega

/-- A row of sixteen bytes of the call's own, read as a string. -/
theorem conv_row (l : List UInt8) (n : Nat) (hn : l.length = n) (B : Nat) (v : Value) (w : World) (h : w.ownsRow B 5 1 v n (Lib.byteCells l)) (hpos : 0 < n) :
    (convert 30 9 v).run Try.prog w = .ok (.string ⟨l.toArray⟩) w := by
  obtain ⟨_, ⟨_, h0⟩ | ⟨g, cap, cur, rfl, _, hb, _, _, _, hcur⟩⟩ := h
  · omega
  · subst hn
    refine run_convert_bytes_back (P := Try.prog) w 30 9 5 ⟨g, 0, none⟩ cap l Try.underlying30 Try.underlying5 Try.underlying9 ?_
    intro j hj
    have h1 : cur.toList[j]? = some (.int .u8 (l[j].toNat : Int)) := by
      have e1 : (cur.toList.take (l.length * 1))[j]? = cur.toList[j]? := by rw [List.getElem?_take]; simp [hj]
      rw [← e1, hcur]
      simp [Lib.byteCells, hj]
    rw [WideShapes.add_plain, Nat.zero_add]
    simpa [World.cell?, hb] using h1

abbrev zero16 : Obj := .cells #[.int .u8 0, .int .u8 0, .int .u8 0, .int .u8 0, .int .u8 0, .int .u8 0, .int .u8 0, .int .u8 0, .int .u8 0, .int .u8 0, .int .u8 0, .int .u8 0, .int .u8 0, .int .u8 0, .int .u8 0, .int .u8 0] 5

theorem size2 (w : World) (o1 o2 : Obj) : ((w.alloc o1).alloc o2).drew.heap.size = w.heap.size + 2 := by
  show ((w.alloc o1).alloc o2).heap.size = _
  simp
theorem cell2 (w : World) (a b : Value) (t : TypeId) (o : Obj) : ((w.alloc (.cells #[a, b] t)).alloc o).drew.cell? ⟨w.heap.size, 1, none⟩ = some b := by
  show ((w.alloc (.cells #[a, b] t)).alloc o).cell? ⟨w.heap.size, 1, none⟩ = some b
  rw [World.cell?_alloc_past _ _ _ (by simp)]
  exact World.cell?_alloc_new _ _ _ _
theorem own16 (w : World) (o1 : Obj) : ((w.alloc o1).alloc zero16).drew.ownsRow (w.heap.size + 1) 5 1 (.slice (some ⟨w.heap.size + 1, 0, none⟩) 0 16) 0 [] := by
  refine ⟨rfl, .inr ⟨w.heap.size + 1, 16, (List.replicate 16 (Value.int .u8 0)).toArray, rfl, Nat.le_refl _, ?_, by omega, by decide, rfl, rfl⟩⟩
  have := (MapKept.heap_alloc (w.alloc o1) zero16).1
  rw [show (w.alloc o1).heap.size = w.heap.size + 1 by simp] at this
  exact this

set_option maxHeartbeats 2000000 in
set_option maxRecDepth 100000 in
theorem key_any (e c : Int) (he0 : -9223372036854775808 ≤ e) (he1 : e ≤ 9223372036854775807) (hc0 : 0 ≤ c) (hc1 : c ≤ 18446744073709551615) (w : World) :
    Calls Try.prog 6 #[.agg #[.int .i64 e, .int .u64 c]] w fun r w' => r = .returned (.string ⟨(keyL (e + 9223372036854775808).toNat c.toNat).toArray⟩) ∧ Below w.heap.size w w' := by
  have hmk : ∀ w, (Instr.makeSlice 30 (.int .i64 0) (.int .i64 16)).run Try.prog w = .ok (.slice (some ⟨w.heap.size, 0, none⟩) 0 16) (w.alloc (.cells #[.int .u8 0, .int .u8 0, .int .u8 0, .int .u8 0, .int .u8 0, .int .u8 0, .int .u8 0, .int .u8 0, .int .u8 0, .int .u8 0, .int .u8 0, .int .u8 0, .int .u8 0, .int .u8 0, .int .u8 0, .int .u8 0] 5)) := fun _ => by kernel_rfl
  have hH : (e + 9223372036854775808).toNat < 18446744073709551616 := by omega
  have hfl := flip_sign e he0 he1
  have hown := own16 w (.cells #[.int .i64 e, .int .u64 c] 27)
  have hA := append64 (w.heap.size + 1) 0 (e + 9223372036854775808).toNat hH _ [] _ hown (by rw [size2]; omega) (by omega)
  have hC := fun v' xs w2 (h : World.ownsRow w2 (w.heap.size + 1) 5 1 v' 8 xs) (hs : w.heap.size + 1 ≤ w2.heap.size) => append64 (w.heap.size + 1) 8 c.toNat (by omega) v' xs w2 h hs (by omega)
  rw [Int.toNat_of_nonneg hc0] at hC
  rw [← hfl] at hA
  have HA : Hid _ := hA
  have HC : Hid _ := hC
  clear hA hC hfl hown
  generalize (e + 9223372036854775808).toNat = H at *
  go_enter Try.func6, Try.ntmps6
  go_wp2
  go_region_with (go_at_call 7; refine Calls.mono HA.out ?_; rintro e w2 ⟨v', rfl, hown2, hb2⟩)
  all_goals
    have hcell : w2.cell? ⟨w.heap.size, 1, none⟩ = some (.int .u64 c) := by
      exact (hb2.cell (p := ⟨w.heap.size, 1, none⟩) (by show w.heap.size < w.heap.size + 1; omega)).trans (cell2 w _ _ _ _)
    have hs2 : w.heap.size + 1 ≤ w2.heap.size := by have := hb2.size; rw [size2] at this; omega
    go_wp2_with fail
    refine Calls.mono (HC.out v' _ w2 hown2 hs2) ?_
    rintro e w3 ⟨v3, rfl, hown3, hb3⟩
    have hcv := conv_row (keyL H c.toNat) 16 (keyL_length _ _) _ v3 w3 (by simpa [keyL, Lib.byteCells] using hown3) (by omega)
    go_wp2
    go_ret
    refine ⟨rfl, ?_⟩
    have b1 : Below w.heap.size w ((w.alloc (.cells #[.int .i64 e, .int .u64 c] 27)).alloc zero16).drew := Below.drew (((Below.refl _ w).alloc (Nat.le_refl _) _).alloc (by simp) _)
    exact (b1.trans (hb2.mono (by omega))).trans (hb3.mono (by omega))
end Go.Proofs.Qxb6614561a
