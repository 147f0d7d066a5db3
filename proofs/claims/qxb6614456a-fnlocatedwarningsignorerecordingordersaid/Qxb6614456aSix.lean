/-
  THE WALK of callLocated.
-/
import Derived.Test.Qxb6614456aApp
namespace Go.Proofs.Qxb6614456a
open Go Go.RowKit Go.Sort Go.Shelf Go.Lib

/-- The block g is a row of n cells, the first i of them as f says. -/
def RowA (w : World) (g : Nat) (t : TypeId) (n : Nat) (f : Nat → Value) (i : Nat) : Prop := ∃ a, Blk w g a t ∧ a.size = n ∧ ∀ j, j < i → a[j]? = some (f j)

theorem RowA.at {w : World} {g : Nat} {t : TypeId} {n : Nat} {f : Nat → Value} {i : Nat} (h : RowA w g t n f i) (hi : i < n) : ∃ u, w.cell? ⟨g, i, none⟩ = some u ∧ w.frozen? ⟨g, i, none⟩ = false := by
  obtain ⟨a, hA, hs, _⟩ := h
  exact ⟨a[i], by rw [hA.cell, Array.getElem?_eq_getElem (by omega)], hA.frozen _⟩
theorem RowA.store {w : World} {g : Nat} {t : TypeId} {n : Nat} {f : Nat → Value} {i : Nat} (h : RowA w g t n f i) (hi : i < n) : RowA (w.setCell ⟨g, i, none⟩ (f i)) g t n f (i + 1) := by
  obtain ⟨a, hA, hs, hf⟩ := h
  refine ⟨_, hA.set i (f i), by simpa using hs, fun j hj => ?_⟩
  by_cases e : j = i
  · subst e
    simp [hs, hi]
  · rw [Array.getElem?_setIfInBounds_ne (by omega)]
    exact hf j (by omega)
theorem RowA.other {w : World} {g C : Nat} {t : TypeId} {n : Nat} {f : Nat → Value} {i : Nat} (h : RowA w g t n f i) (hne : g ≠ C) (j : Nat) (v : Value) : RowA (w.setCell ⟨C, j, none⟩ v) g t n f i := by
  obtain ⟨a, hA, hs⟩ := h
  exact ⟨a, hA.other hne j v, hs⟩
theorem RowA.alloc {w : World} {g : Nat} {t : TypeId} {n : Nat} {f : Nat → Value} {i : Nat} (h : RowA w g t n f i) (o : Obj) : RowA (w.alloc o) g t n f i := by
  obtain ⟨a, hA, hs⟩ := h
  exact ⟨a, hA.alloc o, hs⟩
theorem RowA.new (w : World) (z : Value) (t : TypeId) (n : Nat) (f : Nat → Value) : RowA (w.alloc (.cells (madeCells #[z] n) t)) w.heap.size t n f 0 := ⟨_, Blk.new _ _ _, size_madeCells _ _, fun j hj => by omega⟩
theorem RowA.cell {w : World} {g : Nat} {t : TypeId} {n : Nat} {f : Nat → Value} {i : Nat} (h : RowA w g t n f i) (j : Nat) (hj : j < i) : w.cell? ⟨g, j, none⟩ = some (f j) := by
  obtain ⟨a, hA, hs, hf⟩ := h
  rw [hA.cell]; exact hf j hj

theorem info9 : (Try.prog.info? 9).map (fun i => (i.zero, i.size, i.bytes)) = some (some (.string ⟨#[]⟩), 1, 16) := by kernel_rfl
theorem mk41 (n : Nat) (h : n ≤ 1048576) : ∀ w, (Instr.makeSlice 41 (.int .i64 (n : Int)) (.int .i64 (n : Int))).run Try.prog w = .ok (.slice (some ⟨w.heap.size, 0, none⟩) n n) (w.alloc (.cells (madeCells #[.string ⟨#[]⟩] n) 9)) :=
  run_make_row' (P := Try.prog) 41 9 (.string ⟨#[]⟩) 16 Try.underlying41 info9 rfl .i64 .i64 n (by omega) (by omega)
theorem info4 : (Try.prog.info? 4).map (fun i => (i.zero, i.size, i.bytes)) = some (some (.bool false), 1, 1) := by kernel_rfl
theorem mk53 (n : Nat) (h : n ≤ 1048576) : ∀ w, (Instr.makeSlice 53 (.int .i64 (n : Int)) (.int .i64 (n : Int))).run Try.prog w = .ok (.slice (some ⟨w.heap.size, 0, none⟩) n n) (w.alloc (.cells (madeCells #[.bool false] n) 4)) :=
  run_make_row' (P := Try.prog) 53 4 (.bool false) 1 Try.underlying53 info4 rfl .i64 .i64 n (by omega) (by omega)

/-- The warning as recorded. -/
def Lp.wn (x : Lp) : Wn := ⟨(x.off.val : Int), x.line, x.col, x.path, x.nj, x.msg⟩

/-- The slice at ao reads as the warnings d. -/
def LsAt (w : World) (ao : Option Addr) (d : Array Lp) : Prop := ∀ j, j < d.size → ∃ g q, ao = some ⟨g, q, none⟩ ∧ g < w.heap.size ∧ At6 w g (q + j * 6) d[j]!.wn

/-- What stands at the head of each round of callLocated's loop. -/
structure SixInv (w : World) (H n : Nat) (d : Array Lp) (i : Nat) (wr : World) : Prop where
  b0 : RowA wr H 3 n (fun j => .int .i64 (d[j]!.off.val : Int)) i
  b1 : RowA wr (H + 1) 3 n (fun j => .int .i64 d[j]!.line) i
  b2 : RowA wr (H + 2) 3 n (fun j => .int .i64 d[j]!.col) i
  b3 : RowA wr (H + 3) 9 n (fun j => .string d[j]!.path) i
  b4 : RowA wr (H + 4) 4 n (fun j => .bool d[j]!.nj) i
  b5 : RowA wr (H + 5) 9 n (fun j => .string d[j]!.msg) i
  bel : RowKit.Below H w wr

theorem SixInv.step {w : World} {H n : Nat} {d : Array Lp} {i : Nat} {wr : World} (h : SixInv w H n d i wr) (hi : i < n) :
    SixInv w H n d (i + 1) ((((((wr.setCell ⟨H, i, none⟩ (.int .i64 (d[i]!.off.val : Int))).setCell ⟨H + 1, i, none⟩ (.int .i64 d[i]!.line)).setCell ⟨H + 2, i, none⟩ (.int .i64 d[i]!.col)).setCell ⟨H + 3, i, none⟩ (.string d[i]!.path)).setCell ⟨H + 4, i, none⟩ (.bool d[i]!.nj)).setCell ⟨H + 5, i, none⟩ (.string d[i]!.msg)) := by
  obtain ⟨b0, b1, b2, b3, b4, b5, hb⟩ := h
  constructor
  · exact (((((b0.store hi).other (by omega) _ _).other (by omega) _ _).other (by omega) _ _).other (by omega) _ _).other (by omega) _ _
  · exact (((((b1.other (by omega) _ _).store hi).other (by omega) _ _).other (by omega) _ _).other (by omega) _ _).other (by omega) _ _
  · exact (((((b2.other (by omega) _ _).other (by omega) _ _).store hi).other (by omega) _ _).other (by omega) _ _).other (by omega) _ _
  · exact (((((b3.other (by omega) _ _).other (by omega) _ _).other (by omega) _ _).store hi).other (by omega) _ _).other (by omega) _ _
  · exact (((((b4.other (by omega) _ _).other (by omega) _ _).other (by omega) _ _).other (by omega) _ _).store hi).other (by omega) _ _
  · exact (((((b5.other (by omega) _ _).other (by omega) _ _).other (by omega) _ _).other (by omega) _ _).other (by omega) _ _).store hi
  · exact (((((hb.setCell (p := ⟨H, i, none⟩) (by simp) _).setCell (p := ⟨H + 1, i, none⟩) (by simp) _).setCell (p := ⟨H + 2, i, none⟩) (by simp) _).setCell (p := ⟨H + 3, i, none⟩) (by simp) _).setCell (p := ⟨H + 4, i, none⟩) (by simp) _).setCell (p := ⟨H + 5, i, none⟩) (by simp) _

theorem SixInv.rows {w : World} {H n : Nat} {d : Array Lp} {wr : World} (h : SixInv w H n d n wr) (i : Nat) (hi : i < n) : Rows6 wr H (H + 1) (H + 2) (H + 3) (H + 4) (H + 5) d i :=
  ⟨h.b0.cell i hi, h.b1.cell i hi, h.b2.cell i hi, h.b3.cell i hi, h.b4.cell i hi, h.b5.cell i hi⟩

theorem size_alloc' (w : World) (o : Obj) : (w.alloc o).heap.size = w.heap.size + 1 := by simp

theorem SixInv.start (w : World) (n : Nat) (d : Array Lp) : SixInv w w.heap.size n d 0 ((((((w.alloc (.cells (madeCells #[.int .i64 0] n) 3)).alloc (.cells (madeCells #[.int .i64 0] n) 3)).alloc (.cells (madeCells #[.int .i64 0] n) 3)).alloc (.cells (madeCells #[.string ⟨#[]⟩] n) 9)).alloc (.cells (madeCells #[.bool false] n) 4)).alloc (.cells (madeCells #[.string ⟨#[]⟩] n) 9)) := by
  have h1 := RowA.new w (.int .i64 0) 3 n (fun j => .int .i64 (d[j]!.off.val : Int))
  have h2 := RowA.new (w.alloc (.cells (madeCells #[.int .i64 0] n) 3)) (.int .i64 0) 3 n (fun j => .int .i64 d[j]!.line)
  have h3 := RowA.new ((w.alloc (.cells (madeCells #[.int .i64 0] n) 3)).alloc (.cells (madeCells #[.int .i64 0] n) 3)) (.int .i64 0) 3 n (fun j => .int .i64 d[j]!.col)
  have h4 := RowA.new (((w.alloc (.cells (madeCells #[.int .i64 0] n) 3)).alloc (.cells (madeCells #[.int .i64 0] n) 3)).alloc (.cells (madeCells #[.int .i64 0] n) 3)) (.string ⟨#[]⟩) 9 n (fun j => .string d[j]!.path)
  have h5 := RowA.new ((((w.alloc (.cells (madeCells #[.int .i64 0] n) 3)).alloc (.cells (madeCells #[.int .i64 0] n) 3)).alloc (.cells (madeCells #[.int .i64 0] n) 3)).alloc (.cells (madeCells #[.string ⟨#[]⟩] n) 9)) (.bool false) 4 n (fun j => .bool d[j]!.nj)
  have h6 := RowA.new (((((w.alloc (.cells (madeCells #[.int .i64 0] n) 3)).alloc (.cells (madeCells #[.int .i64 0] n) 3)).alloc (.cells (madeCells #[.int .i64 0] n) 3)).alloc (.cells (madeCells #[.string ⟨#[]⟩] n) 9)).alloc (.cells (madeCells #[.bool false] n) 4)) (.string ⟨#[]⟩) 9 n (fun j => .string d[j]!.msg)
  simp only [size_alloc'] at h2 h3 h4 h5 h6
  exact ⟨((((h1.alloc _).alloc _).alloc _).alloc _).alloc _, (((h2.alloc _).alloc _).alloc _).alloc _, ((h3.alloc _).alloc _).alloc _, (h4.alloc _).alloc _, h5.alloc _, h6,
    ((((((RowKit.Below.refl _ _).alloc (Nat.le_refl _) _).alloc (by simp) _).alloc (by simp; omega) _).alloc (by simp; omega) _).alloc (by simp; omega) _).alloc (by simp; omega) _⟩

set_option maxHeartbeats 8000000 in
set_option maxRecDepth 100000 in
theorem call_any (a0 : Option Addr) (n0 c0 : Nat) (bs : List UInt8) (ao : Option Addr) (n c : Nat) (d : Array Lp) (w : World) (hn : d.size = n) (hn2 : n ≤ 1048576) (hn0 : bs.length = n0) (hmax : n0 ≤ 1048576) (hbs : BsAt w a0 bs) (hb0 : ∀ g q, a0 = some ⟨g, q, none⟩ → g < w.heap.size) (hoff : ∀ i, i < n → d[i]!.off.val ≤ n0) (hl : LsAt w ao d) :
    Calls Try.prog 14 #[.slice a0 n0 c0, .slice ao n c] w (ZzPost w n bs d) := by
  have Hn : Hid (d.size = n) := hn
  have Hn0 : Hid (bs.length = n0) := hn0
  have Hbs : Hid (BsAt w a0 bs) := hbs
  have Hb0 : Hid (∀ g q, a0 = some ⟨g, q, none⟩ → g < w.heap.size) := hb0
  have Hoff : Hid (∀ i, i < n → d[i]!.off.val ≤ n0) := hoff
  have Hl : Hid (LsAt w ao d) := hl
  have m1 := mk30 n hn2
  have m2 := mk41 n hn2
  have m3 := mk53 n hn2
  clear hn hn0 hbs hb0 hoff hl
  go_enter Try.func14, Try.ntmps14
  go_wp2_with fail
  go_loopg [33] n (fun kx s33 wr => ∃ i : Nat, s33 = .int .i64 i ∧ i ≤ n ∧ n - i ≤ kx ∧ Hid (SixInv w w.heap.size n d i wr))
  case atStart => exact ⟨0, rfl, by omega, by omega, SixInv.start w n d⟩
  case round =>
    obtain ⟨i, rfl, hin, hkx, HI⟩ := hrel
    by_cases hlt : i < n
    · have hlt' : (i : Int) < n := by omega
      obtain ⟨g, q, rfl, hg, h6⟩ := Hl.out i (by rw [Hn.out]; exact hlt)
      obtain ⟨p0, p1, p2, p3, p4, p5⟩ := h6.below HI.out.bel hg
      unfold Lp.wn at p0 p1 p2 p3 p4 p5
      dsimp only at p0 p1 p2 p3 p4 p5
      obtain ⟨u0, s0, f0⟩ := HI.out.b0.at hlt
      obtain ⟨u1, s1, f1⟩ := HI.out.b1.at hlt
      obtain ⟨u2, s2, f2⟩ := HI.out.b2.at hlt
      obtain ⟨u3, s3, f3⟩ := HI.out.b3.at hlt
      obtain ⟨u4, s4, f4⟩ := HI.out.b4.at hlt
      obtain ⟨u5, s5, f5⟩ := HI.out.b5.at hlt
      clear h6
      go_wp2_with fail
      go_roundg (n - (i + 1))
      case measure => omega
      case rel => exact ⟨i + 1, by go_num, by omega, Nat.le_refl _, HI.out.step hlt⟩
    · have hlt' : ¬ (i : Int) < n := by omega
      obtain rfl : i = n := by omega
      have hbe := HI.out.bel
      have call := zz_loop a0 n0 c0 bs w.heap.size (w.heap.size + 1) (w.heap.size + 2) (w.heap.size + 3) (w.heap.size + 4) (w.heap.size + 5) i d wr Hn.out hn2 Hn0.out hmax (Hbs.out.below hbe Hb0.out) (fun g q h => Nat.lt_of_lt_of_le (Hb0.out g q h) hbe.size) Hoff.out HI.out.rows
      have HB : Hid (RowKit.Below w.heap.size w wr) := hbe
      clear hbe HI
      go_wp2_with fail
      refine call.mono ?_
      rintro e w2 ⟨G, A, rfl, hb2, hR⟩
      have HR : Hid (0 < i → w.heap.size ≤ G ∧ ∃ d' arr, PermIn 0 i d d' ∧ SortedIn (ltOf cfL) 0 i d' ∧ Blk w2 G arr 35 ∧ LocA arr bs d' i) := fun h => ⟨Nat.le_trans HB.out.size (hR h).1, (hR h).2⟩
      have HB2 : Hid (RowKit.Below w.heap.size w w2) := HB.out.trans (hb2.mono HB.out.size)
      clear call hR hb2
      obtain ⟨rG, hrG⟩ : ∃ rG, rG = (if i = 0 then none else some (⟨G, 0, none⟩ : Addr)) := ⟨_, rfl⟩
      have HrG : Hid (rG = (if i = 0 then none else some (⟨G, 0, none⟩ : Addr))) := hrG
      rw [← hrG]
      clear hrG
      dsimp only
      go_wp2_with fail
      go_ret2
      exact ⟨G, A, by rw [← HrG.out]; rfl, HB2.out, HR.out⟩
end Go.Proofs.Qxb6614456a
