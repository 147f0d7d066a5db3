/-
  THE WALKS of NewLineCounter and At.
-/
import Derived.Test.Qxb6614456aBase
import Derived.Deep.LoopGhost
import Derived.Shelf.RegionOpenPlain
import Derived.Deep.RegionHeld3
namespace Go.Proofs.Qxb6614456a
open Go Go.RowKit

theorem heap_setCell_at {w : World} {D j : Nat} {v : Value} {cur : Array Value} {t : TypeId} {fr : Nat × Nat} (h : w.heap[D]? = some (.cells cur t fr)) :
    (w.setCell ⟨D, j, none⟩ v).heap[D]? = some (.cells (cur.setIfInBounds j v) t fr) := by
  simp [World.setCell, Array.getElem?_modify, h]

/-- The block g holds just the cells arr. -/
def Blk (w : World) (g : Nat) (arr : Array Value) (t : TypeId) : Prop := w.heap[g]? = some (.cells arr t (0, 0))

theorem Blk.cell {w : World} {g : Nat} {arr : Array Value} {t : TypeId} (h : Blk w g arr t) (j : Nat) : w.cell? ⟨g, j, none⟩ = arr[j]? := by
  have h' : w.heap[g]? = some (.cells arr t (0, 0)) := h
  simp [World.cell?, h']
theorem Blk.frozen {w : World} {g : Nat} {arr : Array Value} {t : TypeId} (h : Blk w g arr t) (j : Nat) : w.frozen? ⟨g, j, none⟩ = false := by
  have h' : w.heap[g]? = some (.cells arr t (0, 0)) := h
  simp [World.frozen?, h']
theorem Blk.set {w : World} {g : Nat} {arr : Array Value} {t : TypeId} (h : Blk w g arr t) (j : Nat) (v : Value) : Blk (w.setCell ⟨g, j, none⟩ v) g (arr.setIfInBounds j v) t := heap_setCell_at h
theorem Blk.below {w w' : World} {g B : Nat} {arr : Array Value} {t : TypeId} (h : Blk w g arr t) (hb : Below B w w') (hg : g < B) : Blk w' g arr t := (hb.block g hg).trans h
theorem Blk.lt {w : World} {g : Nat} {arr : Array Value} {t : TypeId} (h : Blk w g arr t) : g < w.heap.size := (Array.getElem?_eq_some_iff.1 h).1
theorem below_drewN' {B : Nat} {a w : World} (h : Below B a w) (n : Nat) : Below B a (w.drewN n) := h.trans ⟨rfl, rfl, rfl, Nat.le_refl _, fun _ _ => rfl⟩
theorem Blk.drew {w : World} {g : Nat} {arr : Array Value} {t : TypeId} (h : Blk w g arr t) : Blk w.drew g arr t := h
theorem Blk.new (w : World) (arr : Array Value) (t : TypeId) : Blk (w.alloc (.cells arr t)) w.heap.size arr t := (MapKept.heap_alloc w _).1
theorem Blk.other {w : World} {g C : Nat} {arr : Array Value} {t : TypeId} (h : Blk w g arr t) (hne : g ≠ C) (j : Nat) (v : Value) : Blk (w.setCell ⟨C, j, none⟩ v) g arr t := (Below.heap_setCell w _ v g hne).trans h
theorem Blk.alloc {w : World} {g : Nat} {arr : Array Value} {t : TypeId} (h : Blk w g arr t) (o : Obj) : Blk (w.alloc o) g arr t := (Below.heap_alloc w o g h.lt).trans h

/-- The line at offset k, and where it begins. -/
def ln (bs : List UInt8) : Nat → Nat
  | 0 => 1
  | k + 1 => if bs.getD k 0 = 10 then ln bs k + 1 else ln bs k
def ls (bs : List UInt8) : Nat → Nat
  | 0 => 0
  | k + 1 => if bs.getD k 0 = 10 then k + 1 else ls bs k
theorem ln_le (bs : List UInt8) : ∀ k, ln bs k ≤ k + 1
  | 0 => by simp [ln]
  | k + 1 => by have := ln_le bs k; unfold ln; split <;> omega
theorem ls_le (bs : List UInt8) : ∀ k, ls bs k ≤ k
  | 0 => by simp [ls]
  | k + 1 => by have := ls_le bs k; unfold ls; split <;> omega

/-- The line counter at offset k. -/
def Lc (w : World) (C : Nat) (ao : Option Addr) (n c : Nat) (bs : List UInt8) (k : Nat) : Prop := Blk w C #[.slice ao n c, .int .i64 (ln bs k : Int), .int .i64 (ls bs k : Int), .int .i64 (k : Int)] 127

theorem lc_new (ao : Option Addr) (n c : Nat) (bs : List UInt8) (w : World) :
    Calls Try.prog 37 #[.slice ao n c] w fun e w' => e = .returned (.pointer (some ⟨w.heap.size, 0, none⟩)) ∧ Lc w' w.heap.size ao n c bs 0 ∧ Below w.heap.size w w' := by
  go_enter Try.func37, Try.ntmps37
  go_wp2
  go_ret
  exact ⟨rfl, Blk.new _ _ _, (Below.refl _ _).alloc (Nat.le_refl _) _⟩

set_option maxHeartbeats 4000000 in
set_option maxRecDepth 100000 in
theorem at_any (C : Nat) (ao : Option Addr) (n c : Nat) (bs : List UInt8) (k0 off : Nat) (w : World) (hn : bs.length = n) (hmax : n ≤ 1048576) (hk : k0 ≤ off) (ho : off ≤ n) (hL : Lc w C ao n c bs k0) (hb : BsAt w ao bs) (hB : ∀ g q, ao = some ⟨g, q, none⟩ → g < C) :
    Calls Try.prog 38 #[.pointer (some ⟨C, 0, none⟩), .int .i64 (off : Int)] w fun e w' => e = .returned (.tuple #[.int .i64 (ln bs off : Int), .int .i64 ((off : Int) - (ls bs off : Int) + 1)]) ∧ Lc w' C ao n c bs off ∧ Below C w w' := by
  have mixed : Try.prog.follows .mixedOrders = true := by kernel_rfl
  have Hn : Hid (bs.length = n) := hn
  have HL : Hid (Lc w C ao n c bs k0) := hL
  have Hb : Hid (BsAt w ao bs) := hb
  have HB : Hid (∀ g q, ao = some ⟨g, q, none⟩ → g < C) := hB
  clear hn hL hb hB
  go_enter Try.func38, Try.ntmps38
  go_wp2
  go_loopg [11] off (fun kx s11 wr => ∃ k, k0 ≤ k ∧ k ≤ off ∧ off - k ≤ kx ∧ Hid (Lc wr C ao n c bs k) ∧ Hid (Below C w wr))
  case atStart => exact ⟨k0, by omega, by omega, by omega, HL.out, Below.refl _ _⟩
  case round =>
    obtain ⟨k, hk1, hk2, hkx, HK, HBe⟩ := hrel
    have l1 := ln_le bs k
    have l2 := ls_le bs k
    have E1 : Hid (ln bs (k + 1) = if bs.getD k 0 = 10 then ln bs k + 1 else ln bs k) := by unfold Hid; rw [ln]
    have E2 : Hid (ls bs (k + 1) = if bs.getD k 0 = 10 then k + 1 else ls bs k) := by unfold Hid; rw [ls]
    have p0 := HK.out.cell 0
    have p1 := HK.out.cell 1
    have p2 := HK.out.cell 2
    have p3 := HK.out.cell 3
    have f1 := HK.out.frozen 1
    have f2 := HK.out.frozen 2
    have f3 := HK.out.frozen 3
    simp at p0 p1 p2 p3
    have HK' : Hid (Blk wr C #[.slice ao n c, .int .i64 (ln bs k : Int), .int .i64 (ls bs k : Int), .int .i64 (k : Int)] 127) := HK.out
    clear HK
    by_cases hlt : k < off
    · have hlt' : (k : Int) < off := by omega
      have hkn : (k : Int) < n := by omega
      have hkl : k < bs.length := by rw [Hn.out]; omega
      obtain ⟨g, q, rfl, hg, hc⟩ := Hb.out k hkl
      have hgC := HB.out g q rfl
      have pb := hc k hkl
      rw [← HBe.out.cell (p := ⟨g, q + k, none⟩) hgC] at pb
      clear hc
      have hd : bs.getD k 0 = bs[k] := by simp [hkl]
      rw [hd] at E1 E2
      by_cases h10 : bs[k] = 10
      · rw [h10] at pb
        rw [if_pos h10] at E1 E2
        have pb' : wr.cell? ⟨g, q + k, none⟩ = some (.int .u8 10) := pb
        clear pb
        generalize ln bs k = lk at *
        generalize ls bs k = sk at *
        go_wp2
        go_quiet (fail)
        go_wp2
        go_big_region_o
        go_wp2
        go_roundg (off - (k + 1))
        case measure => omega
        case rel =>
          refine ⟨k + 1, by omega, by omega, Nat.le_refl _, ?_, (((below_drewN' HBe.out (nq + 1)).setCell (p := ⟨C, 1, none⟩) (Nat.le_refl _) _).setCell (p := ⟨C, 2, none⟩) (Nat.le_refl _) _).setCell (p := ⟨C, 3, none⟩) (Nat.le_refl _) _⟩
          have h := ((Blk.set (w := wr.drewN (nq + 1)) HK'.out 1 (.int .i64 ((lk : Int) + 1))).set 2 (.int .i64 ((k : Int) + 1))).set 3 (.int .i64 ((k : Int) + 1))
          unfold Hid Lc
          rw [E1.out, E2.out]
          exact h
      · have h10' : ((bs[k].toNat : Int) == 10) = false := by
          have : bs[k].toNat ≠ 10 := fun h => h10 (UInt8.toNat_inj.1 h)
          simp; omega
        rw [if_neg h10] at E1 E2
        generalize bs[k].toNat = B at *
        generalize ln bs k = lk at *
        generalize ls bs k = sk at *
        go_wp2
        go_quiet (fail)
        go_wp2
        go_roundg (off - (k + 1))
        case measure => omega
        case rel =>
          refine ⟨k + 1, by omega, by omega, Nat.le_refl _, ?_, below_drewN' HBe.out nq |>.setCell (p := ⟨C, 3, none⟩) (Nat.le_refl _) _⟩
          have h := Blk.set (w := wr.drewN nq) HK'.out 3 (.int .i64 ((k : Int) + 1))
          unfold Hid Lc
          rw [E1.out, E2.out]
          exact h
    · have hlt' : ¬ (k : Int) < off := by omega
      obtain rfl : k = off := by omega
      clear E1 E2
      have HLe : Hid (ln bs k = ln bs k) := rfl
      go_wp2
      go_quiet (fail)
      go_wp2
      go_ret2
      exact ⟨by simp, HK'.out, below_drewN' HBe.out nq⟩
end Go.Proofs.Qxb6614456a
