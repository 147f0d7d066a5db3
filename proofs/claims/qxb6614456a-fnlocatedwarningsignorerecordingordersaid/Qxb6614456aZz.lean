/-
  THE WALKS of locatedWarnings and ZZlocatedWarnings.
-/
import Derived.Test.Qxb6614456aLocate
import Derived.Deep.RegionHeld3
import Derived.Deep.AppendLies
namespace Go.Proofs.Qxb6614456a
open Go Go.RowKit Go.Sort Go.Shelf Go.Lib

set_option maxHeartbeats 2000000 in
theorem located_nil (B : Nat) (a0 : Option Addr) (n0 c0 : Nat) (w : World) (hB : Blk w B #[.slice a0 n0 c0, .slice none 0 0, .slice none 0 0] 63) :
    Calls Try.prog 28 #[.pointer (some ⟨B, 0, none⟩)] w fun e w' => e = .returned (.slice none 0 0) ∧ RowKit.Below w.heap.size w w' := by
  have p0 := hB.cell 0
  have p2 := hB.cell 2
  simp at p0 p2
  clear hB
  go_enter Try.func28, Try.ntmps28
  go_wp2_with fail
  go_region_held3 (fun w' => w'.cell? ⟨B, 0, none⟩ = some (.slice a0 n0 c0) ∧ w'.cell? ⟨B, 2, none⟩ = some (.slice none 0 0)) (go_keep)
    (first | (go_at_call 31; refine (locate_nil a0 n0 c0 _).mono ?_; rintro e w' ⟨rfl, rfl⟩))
  all_goals go_wp2
  go_ret
  exact ⟨rfl, below_drewN' (RowKit.Below.refl _ _) 1⟩

set_option maxHeartbeats 2000000 in
theorem located_any (B : Nat) (a0 : Option Addr) (n0 c0 : Nat) (bs : List UInt8) (L cap n : Nat) (d : Array Lp) (w : World) (hB : Blk w B #[.slice a0 n0 c0, .slice none 0 0, .slice (some ⟨L, 0, none⟩) n cap] 63) (hBL : B < L)
    (call : Calls Try.prog 31 #[.slice a0 n0 c0, .slice (some ⟨L, 0, none⟩) n cap] w.drew (LocPost w L n bs d)) :
    Calls Try.prog 28 #[.pointer (some ⟨B, 0, none⟩)] w (LocPost w L n bs d) := by
  have p0 := hB.cell 0
  have p2 := hB.cell 2
  simp at p0 p2
  clear hB
  go_enter Try.func28, Try.ntmps28
  go_wp2_with fail
  go_region_held3 (fun w' => w'.cell? ⟨B, 0, none⟩ = some (.slice a0 n0 c0) ∧ w'.cell? ⟨B, 2, none⟩ = some (.slice (some ⟨L, 0, none⟩) n cap))
    (first | go_keep | (have hbl := HP.out.2.1; go_split_ands; refine ⟨?_, ?_⟩ <;> (rw [hbl.cell (by exact hBL)]; assumption)))
    (first | (go_at_call 31; refine call.mono ?_; rintro e w' ⟨G, d', arr, rfl, hP⟩; have HP : Hid _ := hP; clear hP))
  all_goals go_wp2
  go_ret
  exact ⟨G, d', arr, rfl, HP.out⟩
end Go.Proofs.Qxb6614456a
