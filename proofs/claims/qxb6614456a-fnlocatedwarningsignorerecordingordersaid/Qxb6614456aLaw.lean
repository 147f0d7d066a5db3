/-
  THE WALK of the law, ahead of its loop.
-/
import Derived.Test.Qxb6614456aPlaces
import Derived.Test.Qxb6614456aFit
import Derived.Maps.AppendAt
import Derived.Laws.MakeOwn
import Derived.Deep.Slices
namespace Go.Proofs.Qxb6614456a
open Go Go.RowKit Go.Sort Go.Shelf Go.Lib

/-- The warnings turned by k. -/
def turned (d : Array Lp) (k : Nat) : Array Lp := (d.toList.drop k ++ d.toList.take k).toArray

theorem flat6_list (l : List Lp) : flat6 l.toArray l.length = l.flatMap encL := by
  rw [Deep.flatMap_by_index l default encL]
  unfold flat6
  refine Deep.flatMap_congr_range fun i hi => ?_
  rw [getElem!_pos l.toArray i (by simpa using hi)]
  simp [List.getD, hi]

theorem flat6_all (d : Array Lp) {n : Nat} (hn : d.size = n) : flat6 d n = d.toList.flatMap encL := by
  have h := flat6_list d.toList
  simp only [Array.toArray_toList, Array.length_toList] at h
  rw [← hn]; exact h

theorem flatMap_len (l : List Lp) : (l.flatMap encL).length = l.length * 6 := by
  induction l with
  | nil => rfl
  | cons x l ih => rw [List.flatMap_cons, List.length_append, ih]; simp [encL]; omega

theorem flat_split (d : Array Lp) {n k : Nat} (hn : d.size = n) (hk : k ≤ n) : (flat6 d n).drop (k * 6) = (d.toList.drop k).flatMap encL ∧ (flat6 d n).take (k * 6) = (d.toList.take k).flatMap encL := by
  have e : flat6 d n = (d.toList.take k).flatMap encL ++ (d.toList.drop k).flatMap encL := by
    rw [flat6_all d hn, ← List.flatMap_append, List.take_append_drop]
  have hl : ((d.toList.take k).flatMap encL).length = k * 6 := by rw [flatMap_len]; simp; omega
  rw [e]
  exact ⟨by rw [← hl]; simp, by rw [← hl]; simp⟩

theorem size_turned (d : Array Lp) {n k : Nat} (hn : d.size = n) (hk : k ≤ n) : (turned d k).size = n := by simp [turned]; omega

theorem flat_turned (d : Array Lp) {n k : Nat} (hn : d.size = n) (hk : k ≤ n) : (flat6 d n).drop (k * 6) ++ (flat6 d n).take (k * 6) = flat6 (turned d k) n := by
  rw [(flat_split d hn hk).1, (flat_split d hn hk).2, ← List.flatMap_append, flat6_all (turned d k) (size_turned d hn hk)]
  rfl

theorem perm_turned (d : Array Lp) (k : Nat) : (turned d k).toList.Perm d.toList := by
  have h := @List.perm_append_comm _ (d.toList.drop k) (d.toList.take k)
  rw [List.take_append_drop] at h
  exact h

/-- The cells of the row, one by one. -/
theorem ls_cells {w : World} {g q : Nat} {d : Array Lp} {n : Nat} (hn : d.size = n) (h : LsAt w (some ⟨g, q, none⟩) d) (t : Nat) (ht : t < n * 6) : w.cell? ⟨g, q + t, none⟩ = (flat6 d n)[t]? := by
  obtain ⟨g', q', e, _, h6⟩ := h (t / 6) (by omega)
  cases e
  rw [flat6_get d n t ht]
  obtain ⟨c0, c1, c2, c3, c4, c5⟩ := h6
  obtain ⟨r, hr, he⟩ : ∃ r, r < 6 ∧ t = t / 6 * 6 + r := ⟨t % 6, Nat.mod_lt _ (by omega), by omega⟩
  have hm : t % 6 = r := by omega
  rw [hm]
  rw [show q + t = q + t / 6 * 6 + r by omega]
  have h6 : r = 0 ∨ r = 1 ∨ r = 2 ∨ r = 3 ∨ r = 4 ∨ r = 5 := by omega
  rcases h6 with rfl | rfl | rfl | rfl | rfl | rfl
  · exact c0
  · exact c1
  · exact c2
  · exact c3
  · exact c4
  · exact c5

theorem ls_own {w : World} {base g cap n : Nat} {d : Array Lp} (hn : d.size = n) (h : w.ownsRow base 50 6 (.slice (some ⟨g, 0, none⟩) n cap) n (flat6 d n)) (hg : g < w.heap.size) : LsAt w (some ⟨g, 0, none⟩) d := by
  intro j hj
  refine ⟨g, 0, rfl, hg, ?_⟩
  have hc : ∀ r, r < 6 → w.cell? ⟨g, 0 + j * 6 + r, none⟩ = (encL d[j]!)[r]? := fun r hr => by
    rw [Nat.zero_add, h.cellAt (j * 6 + r) (by omega), flat6_get d n _ (by omega)]
    rw [show (j * 6 + r) / 6 = j by omega, show (j * 6 + r) % 6 = r by omega]
  exact ⟨hc 0 (by omega), hc 1 (by omega), hc 2 (by omega), hc 3 (by omega), hc 4 (by omega), hc 5 (by omega)⟩

theorem LsAt.below {w w' : World} {ao : Option Addr} {d : Array Lp} (h : LsAt w ao d) (hb : RowKit.Below w.heap.size w w') : LsAt w' ao d := by
  intro j hj
  obtain ⟨g, q, h1, h2, h3⟩ := h j hj
  exact ⟨g, q, h1, Nat.lt_of_lt_of_le h2 hb.size, h3.below hb h2⟩

/-- A warning whose offset is in range. -/
def Wn.lp (x : Wn) : Lp := ⟨Fin.ofNat 1048577 x.off.toNat, x.line, x.col, x.path, x.nj, x.msg⟩
theorem Wn.lp_wn (x : Wn) (h0 : 0 ≤ x.off) (h1 : x.off ≤ 1048576) : x.lp.wn = x := by
  obtain ⟨off, line, col, path, nj, msg⟩ := x
  simp only [Wn.lp, Lp.wn, Fin.ofNat] at *
  have : ((off.toNat % 1048577 : Nat) : Int) = off := by omega
  rw [this]

theorem info50 : (Try.prog.info? 50).map (fun i => (i.zero, i.size, i.bytes)) = some (some (.agg #[.int .i64 0, .int .i64 0, .int .i64 0, .string ⟨#[]⟩, .bool false, .string ⟨#[]⟩]), 6, 64) := by kernel_rfl

/-- 'make([]Warning, 0, n)': a row that is the call's own. -/
theorem mk26 (n : Nat) (h : n ≤ 1048576) (w : World) : ∃ w', (Instr.makeSlice 26 (.int .i64 0) (.int .i64 (n : Int))).run Try.prog w = .ok (.slice (some ⟨w.heap.size, 0, none⟩) 0 n) w' ∧ w'.ownsRow w.heap.size 50 6 (.slice (some ⟨w.heap.size, 0, none⟩) 0 n) 0 [] ∧ w.grownBy w' none := by
  obtain ⟨i0, hi0, hz0, hz1, hz2⟩ := info_parts info50
  exact run_makeSlice_owned w w.heap.size 26 50 i0 _ 6 Try.underlying26 hi0 hz0 hz1 .i64 .i64 n (by omega) (by rw [hz2]; omega) (by simp [maxLen]; omega) (Nat.le_refl _)
end Go.Proofs.Qxb6614456a
