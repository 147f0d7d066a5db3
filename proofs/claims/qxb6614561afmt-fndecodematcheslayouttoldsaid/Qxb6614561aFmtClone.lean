/-
  THE WALK of zClone: a new row of the same bytes.
-/
import Derived.Test.Qxb6614561aFmtLeaf
import Derived.Laws.CopyOwn
import Derived.Deep.OwnRows
import Derived.Lib.SliceRun
namespace Go.Proofs.Qxb6614561aFmt
open Go Go.RowKit

theorem info5 : (Tryf.prog.info? 5).map (fun i => (i.zero, i.size, i.bytes)) = some (some (.int .u8 0), 1, 1) := by kernel_rfl
theorem size5 : (Tryf.prog.info? 5).map (·.size) = some 1 := by kernel_rfl

theorem clone_nil (w : World) (c : Nat) : Calls Tryf.prog 5 #[.slice none 0 c] w fun e w' => e = .returned (.slice none 0 0) ∧ w' = w := by
  have hq := fun w => Lib.run_eql_slice_nil (P := Tryf.prog) w 22 5 none 0 c 0 0 Tryf.underlying22
  go_enter Tryf.func5, Tryf.ntmps5
  go_wp2
  go_ret
  exact ⟨rfl, rfl⟩

set_option maxHeartbeats 1000000 in
theorem clone_any (ad : Addr) (n c : Nat) (bs : List UInt8) (hn : bs.length = n) (hmax : n ≤ 1048576) (w : World) (hc : ∀ j (h : j < bs.length), w.cell? (ad.add j) = some (.int .u8 (bs[j].toNat : Int))) :
    Calls Tryf.prog 5 #[.slice (some ad) n c] w fun e w' => e = .returned (.slice (some ⟨w.heap.size, 0, none⟩) n n) ∧ Bs w' w.heap.size bs ∧ w.heap.size < w'.heap.size ∧ Below w.heap.size w w' := by
  have hq := fun w => Lib.run_eql_slice_nil (P := Tryf.prog) w 22 5 (some ad) n c 0 0 Tryf.underlying22
  have hmk := run_make_row' (P := Tryf.prog) 22 5 (.int .u8 0) 1 Tryf.underlying22 info5 rfl .i64 .i64 n (by omega) (by omega)
  have hg : (w.alloc (.cells (madeCells #[.int .u8 0] n) 5)).heap[w.heap.size]? = some (.cells (madeCells #[.int .u8 0] n) 5 (0, 0)) := (MapKept.heap_alloc w _).1
  have hb : Below w.heap.size w (w.alloc (.cells (madeCells #[.int .u8 0] n) 5)) := (Below.refl _ _).alloc (Nat.le_refl _) _
  have Hc : Hid (∀ j (h : j < bs.length), w.cell? (ad.add j) = some (.int .u8 (bs[j].toNat : Int))) := hc
  have Hn : Hid (bs.length = n) := hn
  have hlt : ∀ j, j < bs.length → (ad.add j).block < w.heap.size := fun j hj => by
    rcases Nat.lt_or_ge (ad.add j).block w.heap.size with h | h
    · exact h
    · have := hc j hj; simp [World.cell?, Array.getElem?_eq_none h] at this
  have Hlt : Hid (∀ j, j < bs.length → (ad.add j).block < w.heap.size) := hlt
  clear hc hn hlt
  have hs : ((madeCells #[Value.int .u8 0] n).toList.take 0 ++ ((bs.map fun b => Value.int .u8 (b.toNat : Int)) ++ (madeCells #[Value.int .u8 0] n).toList.drop (0 + (bs.map fun b => Value.int .u8 (b.toNat : Int)).length))) = bs.map fun b => Value.int .u8 (b.toNat : Int) := by
    rw [List.drop_eq_nil_of_le (by simp [size_madeCells, Hn.out])]
    simp
  have hcp := run_copy_row (P := Tryf.prog) (w.alloc (.cells (madeCells #[.int .u8 0] n) 5)) 22 22 3 5 w.heap.size 0 n n ad n c (madeCells #[.int .u8 0] n) 5 (bs.map fun b => Value.int .u8 (b.toNat : Int)) Tryf.underlying22 size5 hg
    (by rw [List.length_map, Hn.out]; simp)
    (fun j v hj => by
      rw [List.getElem?_map] at hj
      obtain ⟨b, hb1, rfl⟩ := Option.map_eq_some_iff.1 hj
      obtain ⟨hj1, rfl⟩ := List.getElem?_eq_some_iff.1 hb1
      rw [hb.cell (Hlt.out j hj1)]
      exact Hc.out j hj1)
    (by rw [List.length_map, Hn.out]; simp [size_madeCells]) (fun v hv => by obtain ⟨b, _, rfl⟩ := List.mem_map.1 hv; rfl)
  rw [List.append_assoc, hs] at hcp
  have hrow := setRow_heap (w.alloc (.cells (madeCells #[.int .u8 0] n) 5)) w.heap.size _ (bs.map fun b => Value.int .u8 (b.toNat : Int)).toArray 5 _ hg
  have hbel := below_setRow hb (Nat.le_refl _) (bs.map fun b => Value.int .u8 (b.toNat : Int)).toArray
  generalize (w.alloc (.cells (madeCells #[.int .u8 0] n) 5)).setRow w.heap.size (bs.map fun b => Value.int .u8 (b.toNat : Int)).toArray = w2 at *
  have Hrow : Hid (w2.heap[w.heap.size]? = some (.cells (bs.map fun b => Value.int .u8 (b.toNat : Int)).toArray 5 (0, 0))) := hrow
  clear hrow hs hg hb
  go_enter Tryf.func5, Tryf.ntmps5
  go_wp2
  go_ret
  refine ⟨rfl, ?_, ?_, hbel⟩
  · intro j hj
    have h1 := Hrow.out
    simp [World.cell?, h1, hj]
  · exact (Array.getElem?_eq_some_iff.1 Hrow.out).1
end Go.Proofs.Qxb6614561aFmt
