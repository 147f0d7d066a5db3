/-
  THE WALK of zCmdZero: the zero command is zero.
-/
import Derived.Test.Qxb6614561aFmtLayG
namespace Go.Proofs.Qxb6614561aFmt
open Go Go.RowKit Go.Extern.Stop Go.Stop Go.Extern

set_option maxHeartbeats 4000000 in
set_option maxRecDepth 100000 in
theorem zero_any (w : World) : Calls Tryf.prog 8 #[.agg zeroA] w fun e w' => e = .returned (.bool true) ∧ Below w.heap.size w w' := by
  have hq := fun w => Lib.run_eql_slice_nil (P := Tryf.prog) w 22 5 none 0 0 0 0 Tryf.underlying22
  go_enter Tryf.func8, Tryf.ntmps8
  go_wp2_with fail
  go_ret
  refine ⟨rfl, ?_⟩
  exact (Below.refl _ _).alloc (Nat.le_refl _) _
end Go.Proofs.Qxb6614561aFmt
