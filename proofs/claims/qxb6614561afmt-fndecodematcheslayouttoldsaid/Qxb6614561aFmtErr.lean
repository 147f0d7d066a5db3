/-
  THE WALK of the decoder method err: an error that is not nil.
-/
import Derived.Test.Qxb6614561aFmtErrorf
import Derived.Deep.RegionHeld
namespace Go.Proofs.Qxb6614561aFmt
open Go Go.RowKit Go.Extern.Stop Go.Stop Go.Extern

/-- An error that is not nil. -/
def IsErr (v : Value) : Prop := ∃ a, v = .iface 57 (.pointer a)

set_option maxHeartbeats 2000000 in
theorem err_any (F : Interp) (D : Nat) (v : Value) (w : World) (hF : F.answers w.tape) (h : Dec w D v true) :
    Calls Tryf.prog 16 #[.pointer (some ⟨D, 0, none⟩)] w fun e w' => ∃ r, e = .returned r ∧ IsErr r ∧ Below w.heap.size w w' := by
  obtain ⟨s, ov, wt, hD⟩ := h
  have hlt : D < w.heap.size := (Array.getElem?_eq_some_iff.1 hD).1
  have c1 : w.cell? ⟨D, 1, none⟩ = some (.string s) := by simp [World.cell?, hD]
  have c2 : w.cell? ⟨D, 2, none⟩ = some (.bool true) := by simp [World.cell?, hD]
  have c3 : w.cell? ⟨D, 3, none⟩ = some (.string ov) := by simp [World.cell?, hD]
  have c4 : w.cell? ⟨D, 4, none⟩ = some (.int .i64 wt) := by simp [World.cell?, hD]
  clear hD
  have hcall := errorf_short F ov s wt w.heap.size (w.alloc (.cells #[.iface 9 (.string ov), .iface 3 (.int .i64 wt), .iface 9 (.string s)] 20)).drew hF (by simp) (by simp) (by simp)
  have hb0 : Below w.heap.size w (w.alloc (.cells #[.iface 9 (.string ov), .iface 3 (.int .i64 wt), .iface 9 (.string s)] 20)).drew := ((Below.refl _ _).alloc (Nat.le_refl _) _).drew
  have hcall2 : Calls Tryf.prog 14 #[.string ⟨#[107, 118, 58, 32, 116, 104, 101, 32, 37, 115, 44, 32, 37, 100, 32, 98, 121, 116, 101, 115, 44, 32, 111, 118, 101, 114, 114, 117, 110, 115, 32, 116, 104, 101, 32, 37, 115]⟩, .slice (some ⟨w.heap.size, 0, none⟩) 3 3] (w.alloc (.cells #[.iface 9 (.string ov), .iface 3 (.int .i64 wt), .iface 9 (.string s)] 20)).drew fun e w' =>
      e = .returned (.iface 57 (.pointer (some ⟨w.heap.size + 1, 0, none⟩))) ∧ w'.cell? ⟨D, 1, none⟩ = some (.string s) ∧ w'.cell? ⟨D, 3, none⟩ = some (.string ov) ∧ w'.cell? ⟨D, 4, none⟩ = some (.int .i64 wt) ∧ Hid (Below w.heap.size w w') := by
    refine hcall.mono ?_
    rintro e w' ⟨rfl, hb⟩
    have hb' : Below w.heap.size w w' := hb0.trans (hb.mono hb0.size)
    refine ⟨by simp, (hb'.cell (p := ⟨D, 1, none⟩) hlt).trans c1, (hb'.cell (p := ⟨D, 3, none⟩) hlt).trans c3, (hb'.cell (p := ⟨D, 4, none⟩) hlt).trans c4, hb'⟩
  clear hcall hb0
  go_enter Tryf.func16, Tryf.ntmps16
  go_wp2
  go_region_held (fun w' => w'.cell? ⟨D, 1, none⟩ = some (.string s) ∧ w'.cell? ⟨D, 3, none⟩ = some (.string ov) ∧ w'.cell? ⟨D, 4, none⟩ = some (.int .i64 wt)) (go_keep) (first | (go_at_call 14; refine hcall2.mono ?_; rintro e w' ⟨rfl, k1, k3, k4, hb⟩))
  all_goals
    go_wp2
    go_ret
    exact ⟨_, rfl, ⟨_, rfl⟩, hb.out⟩
end Go.Proofs.Qxb6614561aFmt
