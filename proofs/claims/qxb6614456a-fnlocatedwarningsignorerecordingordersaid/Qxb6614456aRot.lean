/-
  THE TURNED ROW: what the two appends lay.
-/
import Derived.Test.Qxb6614456aLaw
namespace Go.Proofs.Qxb6614456a
open Go Go.RowKit Go.Sort Go.Shelf Go.Lib

theorem flat6_one (d : Array Lp) (n : Nat) : ∀ u ∈ flat6 d n, u.oneCell' = true := fun u hu => by
  unfold flat6 at hu
  obtain ⟨j, _, hj⟩ := List.mem_flatMap.1 hu
  simp [encL] at hj
  rcases hj with rfl | rfl | rfl | rfl | rfl | rfl <;> rfl

theorem mk26' (n : Nat) (h : n ≤ 1048576) (w : World) : (Instr.makeSlice 26 (.int .i64 0) (.int .i64 (n : Int))).run Try.prog w = .ok (.slice (some ⟨w.heap.size, 0, none⟩) 0 n) (w.alloc (.cells (madeCells #[.int .i64 0, .int .i64 0, .int .i64 0, .string ⟨#[]⟩, .bool false, .string ⟨#[]⟩] (n * 6)) 50)) := by
  obtain ⟨i, hi, hzz⟩ := Option.map_eq_some_iff.1 info50
  simp only [Prod.mk.injEq] at hzz
  obtain ⟨hz, hs, hb⟩ := hzz
  have hr := run_make (P := Try.prog) w 26 50 i _ Try.underlying26 hi hz .i64 .i64 0 n (by omega) (by omega) (by rw [hb]; omega) (by omega)
  simp only [Int.toNat_natCast, hs] at hr
  exact hr

theorem below_cells {B b : Nat} {a : World} (hb : B ≤ b) : ∀ (vs : List Value) (o : Nat) (w : World), RowKit.Below B a w → RowKit.Below B a (w.setCells b o vs)
  | [], _, _, h => h
  | v :: vs, o, _, h => below_cells hb vs (o + 1) _ (h.setCell (p := ⟨b, o, none⟩) hb v)

theorem blk_holds {w : World} {g : Nat} {arr : Array Value} {t : TypeId} (h : Blk w g arr t) : Holds id w g 0 arr := fun j hj => by
  rw [Nat.zero_add, h.cell, h.frozen, getElem!_pos arr j hj, Array.getElem?_eq_getElem hj]
  exact ⟨rfl, rfl⟩

/-- What the two appends do. -/
structure RotFacts (g q n K : Nat) (d : Array Lp) (w w1 w2 w3 : World) : Prop where
  l1 : Sem.run Try.prog (loadCellsFrom ⟨g, q + K * 6, none⟩ 0 ((n - K) * 6) #[]) w1 = .ok ((flat6 d n).drop (K * 6)).toArray w1
  s1 : Sem.run Try.prog (storeCells ⟨w.heap.size, 0, none⟩ ((flat6 d n).drop (K * 6)) 0) w1 = .ok () w2
  l2 : Sem.run Try.prog (loadCellsFrom ⟨g, q, none⟩ 0 (K * 6) #[]) w2 = .ok ((flat6 d n).take (K * 6)).toArray w2
  s2 : Sem.run Try.prog (storeCells ⟨w.heap.size, (n - K) * 6, none⟩ ((flat6 d n).take (K * 6)) 0) w2 = .ok () w3
  bel : RowKit.Below w.heap.size w w3
  ls : LsAt w3 (some ⟨w.heap.size, 0, none⟩) (turned d K)

theorem rot_facts (g q n K : Nat) (d : Array Lp) (w : World) (hg : g < w.heap.size) (hn : d.size = n) (hK : K ≤ n) (h : LsAt w (some ⟨g, q, none⟩) d) :
    ∃ w2 w3, RotFacts g q n K d w (w.alloc (.cells (madeCells #[.int .i64 0, .int .i64 0, .int .i64 0, .string ⟨#[]⟩, .bool false, .string ⟨#[]⟩] (n * 6)) 50)) w2 w3 := by
  obtain ⟨zs, hzs, hzz⟩ : ∃ zs, zs = madeCells #[.int .i64 0, .int .i64 0, .int .i64 0, .string ⟨#[]⟩, .bool false, .string ⟨#[]⟩] (n * 6) ∧ zs.size = n * 6 := ⟨_, rfl, size_madeCells _ _⟩
  rw [← hzs]
  clear hzs
  have hl1 : ((flat6 d n).drop (K * 6)).length = (n - K) * 6 := by rw [List.length_drop, flat6_length]; omega
  have hl2 : ((flat6 d n).take (K * 6)).length = K * 6 := by rw [List.length_take, flat6_length]; omega
  have hH1 : Holds id (w.alloc (.cells zs 50)) w.heap.size 0 zs := blk_holds (Blk.new _ _ _)
  have hb1 : RowKit.Below w.heap.size w (w.alloc (.cells zs 50)) := (RowKit.Below.refl _ _).alloc (Nat.le_refl _) _
  have hz1 : (w.alloc (.cells zs 50)).heap.size = w.heap.size + 1 := size_alloc' _ _
  generalize w.alloc (.cells zs 50) = w1 at *
  have hH2 := holds_setCells_c hH1 0 ((flat6 d n).drop (K * 6)) (by rw [hl1, hzz]; omega)
  have hb2 := below_cells (Nat.le_refl _) ((flat6 d n).drop (K * 6)) (0 + 0) w1 hb1
  have hs1 := stores_of_holds Try.prog hH1 0 ((flat6 d n).drop (K * 6)) (by rw [hl1, hzz]; omega) (fun u hu => flat6_one d n u (List.mem_of_mem_drop hu))
  generalize w1.setCells w.heap.size (0 + 0) ((flat6 d n).drop (K * 6)) = w2 at *
  have hH3 := holds_setCells_c hH2 ((n - K) * 6) ((flat6 d n).take (K * 6)) (by rw [size_setMany, hl2, hzz]; omega)
  have hb3 := below_cells (Nat.le_refl _) ((flat6 d n).take (K * 6)) (0 + (n - K) * 6) w2 hb2
  have hs2 := stores_of_holds Try.prog hH2 ((n - K) * 6) ((flat6 d n).take (K * 6)) (by rw [size_setMany, hl2, hzz]; omega) (fun u hu => flat6_one d n u (List.mem_of_mem_take hu))
  generalize w2.setCells w.heap.size (0 + (n - K) * 6) ((flat6 d n).take (K * 6)) = w3 at *
  refine ⟨w2, w3, ?_, by simpa using hs1, ?_, by simpa using hs2, hb3, ?_⟩
  · refine run_loadCellsFrom_list Try.prog _ _ _ _ hl1 fun j v hj => ?_
    rw [WideShapes.add_plain, hb1.cell (p := ⟨g, q + K * 6 + j, none⟩) hg]
    have hlen := (List.getElem?_eq_some_iff.1 hj).1
    rw [hl1] at hlen
    have := ls_cells hn h (K * 6 + j) (by omega)
    rw [← Nat.add_assoc] at this
    rw [this, ← List.getElem?_drop]; exact hj
  · refine run_loadCellsFrom_list Try.prog _ _ _ _ hl2 fun j v hj => ?_
    rw [WideShapes.add_plain, hb2.cell (p := ⟨g, q + j, none⟩) hg]
    have hlen := (List.getElem?_eq_some_iff.1 hj).1
    rw [hl2] at hlen
    rw [ls_cells hn h j (by omega), ← hj, List.getElem?_take, if_pos hlen]
  · have hcell : ∀ t, t < n * 6 → w3.cell? ⟨w.heap.size, t, none⟩ = (flat6 (turned d K) n)[t]? := fun t ht => by
      have h1 := (hH3 t (by rw [size_setMany, size_setMany, hzz]; exact ht)).1
      rw [Nat.zero_add] at h1
      rw [h1, ← flat_turned d hn hK]
      rw [get_setMany _ _ _ t (by rw [size_setMany, hzz]; exact ht), hl2]
      by_cases c : t < (n - K) * 6
      · rw [if_neg (by omega), get_setMany _ _ _ t (by rw [hzz]; exact ht), hl1, if_pos (by omega)]
        rw [List.getElem?_append_left (by rw [hl1]; exact c)]
        rw [Nat.sub_zero, List.getElem?_eq_getElem (by rw [hl1]; exact c), getElem!_pos ((flat6 d n).drop (K * 6)) t (by rw [hl1]; exact c)]
        rfl
      · rw [if_pos (by omega), List.getElem?_append_right (by rw [hl1]; omega), hl1]
        rw [List.getElem?_eq_getElem (by rw [hl2]; omega), getElem!_pos ((flat6 d n).take (K * 6)) (t - (n - K) * 6) (by rw [hl2]; omega)]
        rfl
    have hts := size_turned d hn hK
    intro j hj
    refine ⟨w.heap.size, 0, rfl, World.block_lt_of_cell? w3 _ ((hcell 0 (by omega)).trans (List.getElem?_eq_getElem (by rw [flat6_length]; omega))), ?_⟩
    have hc : ∀ r, r < 6 → w3.cell? ⟨w.heap.size, 0 + j * 6 + r, none⟩ = (encL (turned d K)[j]!)[r]? := fun r hr => by
      rw [Nat.zero_add, hcell (j * 6 + r) (by omega), flat6_get _ n _ (by omega)]
      rw [show (j * 6 + r) / 6 = j by omega, show (j * 6 + r) % 6 = r by omega]
    exact ⟨hc 0 (by omega), hc 1 (by omega), hc 2 (by omega), hc 3 (by omega), hc 4 (by omega), hc 5 (by omega)⟩
end Go.Proofs.Qxb6614456a
