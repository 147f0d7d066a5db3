/-
  slices.SortStableFunc at this program: a sorted permutation of the row.
-/
import Derived.Test.Qxb6614456aLaid
import Derived.Test.Qxb6614456aBase
namespace Go.Proofs.Qxb6614456a
open Go Go.Shelf Go.RowKit Go.Lib Go.Sort

/-- A located problem: its offset lies within 0..1048576. -/
structure Lp where
  off : Fin 1048577
  line : Int
  col : Int
  path : ByteArray
  nj : Bool
  msg : ByteArray
deriving Inhabited

def encL (x : Lp) : List Value := [.int .i64 (x.off.val : Int), .int .i64 x.line, .int .i64 x.col, .string x.path, .bool x.nj, .string x.msg]
def cfL (x y : Lp) : Int := (x.off.val : Int) - (y.off.val : Int)

theorem swoL : SWO (ltOf cfL) := by
  constructor
  · intro x; simp [ltOf, cfL]
  · intro x y z h1 h2
    unfold ltOf cfL at *
    have := of_decide_eq_true h1
    have := of_decide_eq_true h2
    exact decide_eq_true (by omega)
  · intro x y z h1 h2
    unfold ltOf cfL at *
    have := of_decide_eq_false h1
    have := of_decide_eq_false h2
    exact decide_eq_false (by omega)

set_option maxHeartbeats 2000000 in
theorem closure36 (x y : Lp) (W : World) : Calls Try.prog 36 #[.agg (encL x).toArray, .agg (encL y).toArray] W fun e w' => e = .returned (.int .i64 (cfL x y)) ∧ ∃ q os', w' = grow (W.drewN q) os' := by
  have h1 := x.off.isLt
  have h2 := y.off.isLt
  unfold cfL encL
  generalize x.off.val = a at *
  generalize y.off.val = b at *
  go_enter Try.func36, Try.ntmps36
  go_wp2
  go_ret
  refine ⟨by simp, 0, _, by rw [alloc_eq_grow, alloc_eq_grow, grow_grow]; rfl⟩

theorem cmpLays36 (blk off size : Nat) (w : World) : CmpLays Try.prog 36 #[] encL 6 cfL blk off size w := fun _ _ _ _ x y => closure36 x y _

theorem e36 : ∀ args w, (callFunc 36 args).run Try.prog w = .ok (.enter 36 args) w := enters_of Try.func36 (by kernel_rfl) rfl

theorem ins_any (blk cap : Nat) (d0 : Array Lp) (w0 : World) (R : RowK encL 6 w0 blk 0 d0) (hsz : d0.size < 1073741824) (a b : Nat) (dk : Array Lp) (W : World) (hab : a ≤ b) (hb : b ≤ d0.size) (hs : dk.size = d0.size) (S : SWK encL 6 w0 blk 0 dk W) :
    Calls Try.prog 40 #[.slice (some ⟨blk, 0, none⟩) d0.size cap, .int .i64 a, .int .i64 b, .func (.func 36) #[] #[]] W fun e w' => e = .returned (.tuple #[]) ∧ ∃ d', PermIn a b dk d' ∧ SortedIn (ltOf cfL) a b d' ∧ SWK encL 6 w0 blk 0 d' w' := by
  have hI := insertionSort_holds swoL dk a b hab (by omega)
  have h := AnyQ.insertionSortCmpFunc Try.insLay 6 Try.isAgg65 Try.sizeOf65 encL R.hk R.h1 cfL 36 #[] blk 0 cap a b dk W e36 (cmpLays36 _ _ _ _) (S.holds R.hblk R.hH hs) (S.lt R.hblk) hab (by omega) (by omega)
  rw [hs] at h
  change Calls Try.prog 40 _ _ _ at h
  refine h.mono ?_
  rintro e w' ⟨rfl, n, os, rfl⟩
  exact ⟨rfl, _, hI.1, hI.2, S.on R.hblk n _ os hI.1.1⟩

set_option maxHeartbeats 2000000 in
theorem sort_any (blk cap : Nat) (d : Array Lp) (w : World) (R : RowK encL 6 w blk 0 d) (hsz : d.size < 1073741824) :
    Calls Try.prog 35 #[.slice (some ⟨blk, 0, none⟩) d.size cap, .func (.func 36) #[] #[]] w fun e w' => e = .returned (.tuple #[]) ∧ ∃ d', PermIn 0 d.size d d' ∧ SortedIn (ltOf cfL) 0 d.size d' ∧ SWK encL 6 w blk 0 d' w' := by
  have call := stable_any (lt := ltOf cfL) lz encL (.func (.func 36) #[] #[]) blk 0 cap d.size d w w rfl hsz (SWK.start R.hH) (fun a b dk W hab hb hs S => ins_any blk cap d w R hsz a b dk W hab hb hs S)
    (fun a m b dk W h1 h2 h3 h4 S hA hB => sym_any lz encL cfL 36 #[] blk 0 cap d w swoL e36 (cmpLays36 _ _ _ _) R (by omega) (b - a) a m b dk W (Nat.le_refl _) h1 h2 h3 h4 S hA hB)
  clear R
  generalize d.size = n at *
  go_enter Try.func35, Try.ntmps35
  go_wp2_with fail
  refine call.mono ?_
  rintro e w' ⟨rfl, d', h1, h2, h3⟩
  go_wp2
  go_end0
  exact ⟨rfl, d', h1, h2, h3⟩
end Go.Proofs.Qxb6614456a
