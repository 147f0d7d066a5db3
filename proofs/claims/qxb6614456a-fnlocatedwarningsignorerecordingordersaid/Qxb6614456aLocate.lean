/-
  THE WALK of locate.
-/
import Derived.Test.Qxb6614456aSort
import Derived.Test.Qxb6614456aLine
namespace Go.Proofs.Qxb6614456a
open Go Go.RowKit Go.Sort Go.Shelf Go.Lib

theorem info35 : (Try.prog.info? 35).map (fun i => (i.zero, i.size, i.bytes)) = some (some (.agg #[.int .i64 0, .int .i64 0, .string ⟨#[]⟩, .bool false, .string ⟨#[]⟩]), 5, 56) := by kernel_rfl

theorem mk29 (n : Nat) (h : n ≤ 1048576) (w : World) : (Instr.makeSlice 29 (.int .i64 (n : Int)) (.int .i64 (n : Int))).run Try.prog w = .ok (.slice (some ⟨w.heap.size, 0, none⟩) n n) (w.alloc (.cells (madeCells #[.int .i64 0, .int .i64 0, .string ⟨#[]⟩, .bool false, .string ⟨#[]⟩] (n * 5)) 35)) := by
  obtain ⟨i, hi, hzz⟩ := Option.map_eq_some_iff.1 info35
  simp only [Prod.mk.injEq] at hzz
  obtain ⟨hz, hs, hb⟩ := hzz
  have hr := run_make (P := Try.prog) w 29 35 i _ Try.underlying29 hi hz .i64 .i64 n n (by omega) (Int.le_refl _) (by rw [hb]; omega) (by omega)
  simp only [Int.toNat_natCast, hs] at hr
  exact hr

theorem swk_below {w0 W : World} {L : Nat} {d : Array Lp} (hLw : L ≤ w0.heap.size) (h : SWK encL 6 w0 L 0 d W) : RowKit.Below L w0 W := by
  obtain ⟨n, os, rfl⟩ := h
  have hL : ∀ k, k < L → (putRowK encL 6 (Sort.ahead w0 n) L 0 d).heap[k]? = w0.heap[k]? := fun k hk => by
    simp [putRowK, putRow, mapBlock, Sort.ahead, Array.getElem?_modify, Nat.ne_of_gt hk]
  have hz : (putRowK encL 6 (Sort.ahead w0 n) L 0 d).heap.size = w0.heap.size := by simp [putRowK, putRow, mapBlock, Sort.ahead]
  refine ⟨rfl, rfl, rfl, ?_, fun k hk => ?_⟩
  · unfold sortWorldK
    rw [size_grow, hz]; omega
  · unfold sortWorldK grow
    show ((putRowK encL 6 (Sort.ahead w0 n) L 0 d).heap ++ os)[k]? = _
    rw [Array.getElem?_append_left (by rw [hz]; omega)]
    exact hL k hk

/-- The first i problems lie in arr, each with its line and column. -/
def LocA (arr : Array Value) (bs : List UInt8) (d : Array Lp) (i : Nat) : Prop := ∀ j, j < i →
  arr[j * 5]? = some (.int .i64 (ln bs d[j]!.off.val : Int)) ∧ arr[j * 5 + 1]? = some (.int .i64 ((d[j]!.off.val : Int) - (ls bs d[j]!.off.val : Int) + 1)) ∧
  arr[j * 5 + 2]? = some (.string d[j]!.path) ∧ arr[j * 5 + 3]? = some (.bool d[j]!.nj) ∧ arr[j * 5 + 4]? = some (.string d[j]!.msg)

theorem LocA.step {arr : Array Value} {bs : List UInt8} {d : Array Lp} {i n : Nat} (h : LocA arr bs d i) (hs : arr.size = n * 5) (hi : i < n) (u v : Value) :
    LocA (((((((arr.setIfInBounds (i * 5) u).setIfInBounds (i * 5 + 1) v).setIfInBounds (i * 5 + 2) (.string d[i]!.path)).setIfInBounds (i * 5 + 3) (.bool d[i]!.nj)).setIfInBounds (i * 5 + 4) (.string d[i]!.msg)).setIfInBounds (i * 5) (.int .i64 (ln bs d[i]!.off.val : Int))).setIfInBounds (i * 5 + 1) (.int .i64 ((d[i]!.off.val : Int) - (ls bs d[i]!.off.val : Int) + 1))) bs d (i + 1) := by
  intro j hj
  by_cases e : j = i
  · subst e
    simp [Array.getElem?_setIfInBounds, hs]
    omega
  · have := h j (by omega)
    have e0 : ∀ a b, a < 5 → b < 5 → ¬ i * 5 + a = j * 5 + b := fun a b _ _ => by omega
    have e1 := e0 0 0; have e2 := e0 0 1
    refine ⟨?_, ?_, ?_, ?_, ?_⟩
    · rw [← this.1]; simp (disch := omega) [Array.getElem?_setIfInBounds_ne]
    · rw [← this.2.1]; simp (disch := omega) [Array.getElem?_setIfInBounds_ne]
    · rw [← this.2.2.1]; simp (disch := omega) [Array.getElem?_setIfInBounds_ne]
    · rw [← this.2.2.2.1]; simp (disch := omega) [Array.getElem?_setIfInBounds_ne]
    · rw [← this.2.2.2.2]; simp (disch := omega) [Array.getElem?_setIfInBounds_ne]

theorem encL_cells {w : World} {L : Nat} {d : Array Lp} {i : Nat} (h : HoldsK encL 6 w L 0 d) (hi : i < d.size) :
    w.cell? ⟨L, i * 6, none⟩ = some (.int .i64 (d[i]!.off.val : Int)) ∧ w.cell? ⟨L, i * 6 + 1, none⟩ = some (.int .i64 d[i]!.line) ∧ w.cell? ⟨L, i * 6 + 2, none⟩ = some (.int .i64 d[i]!.col) ∧
    w.cell? ⟨L, i * 6 + 3, none⟩ = some (.string d[i]!.path) ∧ w.cell? ⟨L, i * 6 + 4, none⟩ = some (.bool d[i]!.nj) ∧ w.cell? ⟨L, i * 6 + 5, none⟩ = some (.string d[i]!.msg) := by
  have hc := HoldsK.cells h (fun _ => rfl) hi
  refine ⟨?_, ?_, ?_, ?_, ?_, ?_⟩
  · simpa [WideShapes.add_plain] using hc 0 _ rfl
  · simpa [WideShapes.add_plain] using hc 1 _ rfl
  · simpa [WideShapes.add_plain] using hc 2 _ rfl
  · simpa [WideShapes.add_plain] using hc 3 _ rfl
  · simpa [WideShapes.add_plain] using hc 4 _ rfl
  · simpa [WideShapes.add_plain] using hc 5 _ rfl

theorem perm_mem {d d' : Array Lp} {n : Nat} (h : PermIn 0 n d d') (hn : d.size = n) (i : Nat) (hi : i < n) : ∃ j, j < n ∧ d'[i]! = d[j]! := by
  have hs : d'.size = n := h.1.trans hn
  have e1 : d'.extract 0 n = d' := by rw [← hs]; simp
  have e2 : d.extract 0 n = d := by rw [← hn]; simp
  have hp := h.2.2
  rw [e1, e2] at hp
  have hm : d'[i]! ∈ d'.toList := by
    rw [getElem!_pos d' i (by omega)]
    simp
  obtain ⟨j, hj, e⟩ := List.mem_iff_getElem.1 (hp.mem_iff.1 hm)
  have hj' : j < d.size := by simpa using hj
  refine ⟨j, by omega, ?_⟩
  rw [getElem!_pos d j hj']
  simpa using e.symm

theorem rowL {w : World} {L : Nat} {d : Array Lp} (h : HoldsK encL 6 w L 0 d) (hL : L < w.heap.size) : RowK encL 6 w L 0 d :=
  ⟨fun _ => rfl, fun x v hv => by simp [encL] at hv; rcases hv with rfl | rfl | rfl | rfl | rfl | rfl <;> rfl, h, hL⟩

theorem locate_nil (a0 : Option Addr) (n0 c0 : Nat) (w : World) : Calls Try.prog 31 #[.slice a0 n0 c0, .slice none 0 0] w fun e w' => e = .returned (.slice none 0 0) ∧ w' = w := by
  go_enter Try.func31, Try.ntmps31
  go_wp2
  go_ret
  exact ⟨rfl, rfl⟩

/-- What locate hands back: the sorted row, each with its line and column, in a new block. -/
def LocPost (w : World) (L n : Nat) (bs : List UInt8) (d : Array Lp) (e : Ending) (w' : World) : Prop := ∃ G d' arr, e = .returned (.slice (some ⟨G, 0, none⟩) n n) ∧ w.heap.size ≤ G ∧ RowKit.Below L w w' ∧ PermIn 0 n d d' ∧ SortedIn (ltOf cfL) 0 n d' ∧ HoldsK encL 6 w' L 0 d' ∧ Blk w' G arr 35 ∧ LocA arr bs d' n

/-- What stands at the head of each round of locate's loop. -/
structure LocInv (w1 : World) (L G C : Nat) (a0 : Option Addr) (n0 c0 : Nat) (bs : List UInt8) (d : Array Lp) (i : Nat) (wr : World) : Prop where
  arr : ∃ arr, Blk wr G arr 35 ∧ arr.size = d.size * 5 ∧ LocA arr bs d i
  lc : ∃ k, Lc wr C a0 n0 c0 bs k ∧ (i < d.size → k ≤ d[i]!.off.val)
  bel : RowKit.Below G w1 wr
  GC : G < C

set_option maxHeartbeats 4000000 in
set_option maxRecDepth 100000 in
theorem locate_any (a0 : Option Addr) (n0 c0 : Nat) (bs : List UInt8) (L cap n : Nat) (d : Array Lp) (w : World) (hn0 : bs.length = n0) (hmax : n0 ≤ 1048576) (hn : d.size = n) (hn1 : 0 < n) (hn2 : n ≤ 1048576)
    (hb : BsAt w a0 bs) (hB : ∀ g q, a0 = some ⟨g, q, none⟩ → g < L) (hH : HoldsK encL 6 w L 0 d) (hL : L < w.heap.size) (hoff : ∀ i, i < n → d[i]!.off.val ≤ n0) :
    Calls Try.prog 31 #[.slice a0 n0 c0, .slice (some ⟨L, 0, none⟩) n cap] w (LocPost w L n bs d) := by
  have call := sort_any L cap d w (rowL hH hL) (by omega)
  rw [hn] at call
  have Hn0 : Hid (bs.length = n0) := hn0
  have Hb : Hid (BsAt w a0 bs) := hb
  have HB : Hid (∀ g q, a0 = some ⟨g, q, none⟩ → g < L) := hB
  have HH : Hid (HoldsK encL 6 w L 0 d) := hH
  have Hn : Hid (d.size = n) := hn
  have Hoff : Hid (∀ i, i < n → d[i]!.off.val ≤ n0) := hoff
  have hmk := mk29 n hn2
  have hnz : ((n : Int) == 0) = false := by simp; omega
  clear hn0 hb hB hH hn hoff
  go_enter Try.func31, Try.ntmps31
  go_wp2_with fail
  refine call.mono ?_
  rintro e w1 ⟨rfl, d', hp, hs, S⟩
  have hbel1 := swk_below (by omega) S
  have HS : Hid (HoldsK encL 6 w1 L 0 d') := S.holds hL HH.out (hp.1)
  have HP : Hid (PermIn 0 n d d') := hp
  have HSo : Hid (SortedIn (ltOf cfL) 0 n d') := hs
  have HB1 : Hid (RowKit.Below L w w1) := hbel1
  have hL1 : L < w1.heap.size := Nat.lt_of_lt_of_le hL hbel1.size
  clear hp hs S hbel1 call
  go_wp2_with fail
  obtain ⟨zs, hzs, hzz⟩ : ∃ zs, zs = madeCells #[.int .i64 0, .int .i64 0, .string ⟨#[]⟩, .bool false, .string ⟨#[]⟩] (n * 5) ∧ zs.size = n * 5 := ⟨_, rfl, size_madeCells _ _⟩
  rw [← hzs]
  have HG2 : Hid (Blk (w1.alloc (.cells zs 35)) w1.heap.size zs 35) := Blk.new _ _ _
  have HB2 : Hid (RowKit.Below w1.heap.size w1 (w1.alloc (.cells zs 35))) := (RowKit.Below.refl _ _).alloc (Nat.le_refl _) _
  have hz2 : (w1.alloc (.cells zs 35)).heap.size = w1.heap.size + 1 := by simp
  clear hzs
  generalize w1.alloc (.cells zs 35) = w2 at *
  obtain ⟨G, hG⟩ : ∃ G, w1.heap.size = G := ⟨_, rfl⟩
  have HGe : Hid (w1.heap.size = G) := hG
  rw [hG] at HG2 HB2 hz2 hL1 ⊢
  clear hG
  refine (lc_new a0 n0 c0 bs w2).mono ?_
  rintro e w3 ⟨rfl, hlc, hb3⟩
  rw [hz2] at hlc hb3 ⊢
  have HI : Hid (LocInv w1 L G (G + 1) a0 n0 c0 bs d' 0 w3) := ⟨⟨zs, HG2.out.below hb3 (by omega), by rw [hzz, HP.out.1, Hn.out], fun j hj => by omega⟩, ⟨0, hlc, fun _ => by omega⟩, HB2.out.trans (hb3.mono (by omega)), by omega⟩
  clear hlc hb3 HG2 HB2 hz2 hzz
  go_wp2_with fail
  go_loopg [21] n (fun kx s21 wr => ∃ i : Nat, s21 = .int .i64 i ∧ i ≤ n ∧ n - i ≤ kx ∧ Hid (LocInv w1 L G (G + 1) a0 n0 c0 bs d' i wr))
  case atStart => exact ⟨0, rfl, by omega, by omega, HI.out⟩
  case round =>
    clear HI
    obtain ⟨i, rfl, hin, hkx, HI⟩ := hrel
    by_cases hlt : i < n
    · have hlt' : (i : Int) < n := by omega
      obtain ⟨arr, hA, hAs, hAL⟩ := HI.out.arr
      obtain ⟨k, hlc, hk⟩ := HI.out.lc
      have hbe := HI.out.bel
      have hid : i < d'.size := by rw [HP.out.1, Hn.out]; exact hlt
      have hds : d'.size = n := by rw [HP.out.1, Hn.out]
      have hGw := hA.lt
      have hCw := hlc.lt
      have hH : HoldsK encL 6 wr L 0 d' := fun j hj => by rw [hbe.cell (by exact hL1), hbe.frozen (by exact hL1)]; exact HS.out j hj
      obtain ⟨l0, l1, l2, l3, l4, l5⟩ := encL_cells hH hid
      have HA : Hid (Blk wr G arr 35) := hA
      have HAs : Hid (arr.size = n * 5) := by unfold Hid; rw [hAs, hds]
      have HAL : Hid (LocA arr bs d' i) := hAL
      have Hlc : Hid (Lc wr (G + 1) a0 n0 c0 bs k) := hlc
      have Hk : Hid (k ≤ d'[i]!.off.val) := hk hid
      have Hbe : Hid (RowKit.Below G w1 wr) := hbe
      have Hds : Hid (d'.size = n) := hds
      have hcell : ∀ c, c < 5 → ∃ v, wr.cell? ⟨G, i * 5 + c, none⟩ = some v ∧ wr.frozen? ⟨G, i * 5 + c, none⟩ = false := fun c hc => by
        have h5 : i * 5 + c < arr.size := by rw [hAs, hds]; omega
        exact ⟨arr[i * 5 + c], by rw [hA.cell, Array.getElem?_eq_getElem h5], hA.frozen _⟩
      obtain ⟨v0, g0, f0⟩ := hcell 0 (by omega)
      obtain ⟨v1, g1, f1⟩ := hcell 1 (by omega)
      obtain ⟨v2, g2, f2⟩ := hcell 2 (by omega)
      obtain ⟨v3, g3, f3⟩ := hcell 3 (by omega)
      obtain ⟨v4, g4, f4⟩ := hcell 4 (by omega)
      rw [Nat.add_zero] at g0 f0
      clear hA hAs hAL hlc hk hbe hH hid hds HI hcell
      go_wp2_with fail
      obtain ⟨wx, hwx⟩ : ∃ wx, wx = ((((((wr.setCell ⟨G, i * 5, none⟩ (.int .i64 d'[i]!.line)).setCell ⟨G, i * 5 + 1, none⟩ (.int .i64 d'[i]!.col)).setCell ⟨G, i * 5 + 2, none⟩ (.string d'[i]!.path)).setCell ⟨G, i * 5 + 3, none⟩ (.bool d'[i]!.nj)).setCell ⟨G, i * 5 + 4, none⟩ (.string d'[i]!.msg)).alloc (.cells #[.int .i64 (d'[i]!.off.val : Int), .int .i64 d'[i]!.line, .int .i64 d'[i]!.col, .string d'[i]!.path, .bool d'[i]!.nj, .string d'[i]!.msg] 65)) := ⟨_, rfl⟩
      have hA5 := (((((HA.out.set (i * 5) (.int .i64 d'[i]!.line)).set (i * 5 + 1) (.int .i64 d'[i]!.col)).set (i * 5 + 2) (.string d'[i]!.path)).set (i * 5 + 3) (.bool d'[i]!.nj)).set (i * 5 + 4) (.string d'[i]!.msg)).alloc (.cells #[.int .i64 (d'[i]!.off.val : Int), .int .i64 d'[i]!.line, .int .i64 d'[i]!.col, .string d'[i]!.path, .bool d'[i]!.nj, .string d'[i]!.msg] 65)
      have hL5 : Lc ((((((wr.setCell ⟨G, i * 5, none⟩ (.int .i64 d'[i]!.line)).setCell ⟨G, i * 5 + 1, none⟩ (.int .i64 d'[i]!.col)).setCell ⟨G, i * 5 + 2, none⟩ (.string d'[i]!.path)).setCell ⟨G, i * 5 + 3, none⟩ (.bool d'[i]!.nj)).setCell ⟨G, i * 5 + 4, none⟩ (.string d'[i]!.msg)).alloc (.cells #[.int .i64 (d'[i]!.off.val : Int), .int .i64 d'[i]!.line, .int .i64 d'[i]!.col, .string d'[i]!.path, .bool d'[i]!.nj, .string d'[i]!.msg] 65)) (G + 1) a0 n0 c0 bs k :=
        (((((Hlc.out.other (by omega) _ _).other (by omega) _ _).other (by omega) _ _).other (by omega) _ _).other (by omega) _ _).alloc _
      have hB5 := (((((Hbe.out.setCell (p := ⟨G, i * 5, none⟩) (Nat.le_refl _) (.int .i64 d'[i]!.line)).setCell (p := ⟨G, i * 5 + 1, none⟩) (Nat.le_refl _) (.int .i64 d'[i]!.col)).setCell (p := ⟨G, i * 5 + 2, none⟩) (Nat.le_refl _) (.string d'[i]!.path)).setCell (p := ⟨G, i * 5 + 3, none⟩) (Nat.le_refl _) (.bool d'[i]!.nj)).setCell (p := ⟨G, i * 5 + 4, none⟩) (Nat.le_refl _) (.string d'[i]!.msg)).alloc (by simp; omega) (.cells #[.int .i64 (d'[i]!.off.val : Int), .int .i64 d'[i]!.line, .int .i64 d'[i]!.col, .string d'[i]!.path, .bool d'[i]!.nj, .string d'[i]!.msg] 65)
      rw [← hwx] at hA5 hL5 hB5
      clear l0 l1 l2 l3 l4 l5 g0 f0 g1 f1 g2 f2 g3 f3 g4 f4
      rw [← hwx]
      clear hwx
      have ho5 : d'[i]!.off.val ≤ n0 := by
        obtain ⟨j, hj, e⟩ := perm_mem HP.out Hn.out i hlt
        rw [e]; exact Hoff.out j hj
      have hb5 : BsAt wx a0 bs := Hb.out.below (HB1.out.trans (hB5.mono (by omega))) HB.out
      have call := at_any (G + 1) a0 n0 c0 bs k d'[i]!.off.val wx Hn0.out hmax Hk.out ho5 hL5 hb5 (fun g q h => by have := HB.out g q h; omega)
      have HA5 : Hid (Blk wx G _ 35) := hA5
      have HB5 : Hid _ := hB5
      clear hA5 hL5 hB5 hb5 ho5
      refine call.mono ?_
      rintro e w4 ⟨rfl, hl4, hb4⟩
      clear call
      have hA6 := HA5.out.below hb4 (by omega)
      obtain ⟨v0, g0, f0⟩ : ∃ v, w4.cell? ⟨G, i * 5, none⟩ = some v ∧ w4.frozen? ⟨G, i * 5, none⟩ = false := by
        have h5 : i * 5 < arr.size := by rw [HAs.out]; omega
        rw [hA6.cell, hA6.frozen]
        exact ⟨_, Array.getElem?_eq_getElem (by simpa using h5), rfl⟩
      obtain ⟨v1, g1, f1⟩ : ∃ v, w4.cell? ⟨G, i * 5 + 1, none⟩ = some v ∧ w4.frozen? ⟨G, i * 5 + 1, none⟩ = false := by
        have h5 : i * 5 + 1 < arr.size := by rw [HAs.out]; omega
        rw [hA6.cell, hA6.frozen]
        exact ⟨_, Array.getElem?_eq_getElem (by simpa using h5), rfl⟩
      have HA6 : Hid (Blk w4 G _ 35) := hA6
      have HL4 : Hid (Lc w4 (G + 1) a0 n0 c0 bs d'[i]!.off.val) := hl4
      have HB4 : Hid _ := hb4
      clear hA6 hl4 hb4 HA5
      go_wp2_with fail
      go_roundg (n - (i + 1))
      case measure => omega
      case rel =>
        refine ⟨i + 1, by go_num, by omega, Nat.le_refl _, ⟨⟨_, (HA6.out.set _ _).set _ _, by simp [HAs.out, Hds.out], HAL.out.step HAs.out hlt _ _⟩, ⟨_, (Blk.other (C := G) (Blk.other (C := G) HL4.out (by omega) _ _) (by omega) _ _), fun h => ?_⟩, ?_, by omega⟩⟩
        · have h1 := HSo.out i (i + 1) (by omega) (by omega) (by rw [Hds.out] at h; exact h)
          unfold ltOf cfL at h1
          have := of_decide_eq_false h1
          omega
        · exact ((HB5.out.trans (HB4.out.mono (by omega))).setCell (p := ⟨G, i * 5, none⟩) (Nat.le_refl _) _).setCell (p := ⟨G, i * 5 + 1, none⟩) (Nat.le_refl _) _
    · have hlt' : ¬ (i : Int) < n := by omega
      obtain rfl : i = n := by omega
      go_wp2_with fail
      go_ret
      obtain ⟨arr, hA, hAs, hAL⟩ := HI.out.arr
      refine ⟨G, d', arr, rfl, by rw [← HGe.out]; exact HB1.out.size, HB1.out.trans (HI.out.bel.mono (by omega)), HP.out, HSo.out, fun j hj => ?_, hA, hAL⟩
      rw [HI.out.bel.cell (by exact hL1), HI.out.bel.frozen (by exact hL1)]; exact HS.out j hj
end Go.Proofs.Qxb6614456a
