/-
  DERIVED. GIVEN WITH THE SEED: THE CARDS: each row of Qxb6608707aDoorRows.lean that lists a variable, with what it lists TIED to the program's text (the seventh form; the later family's looks); each row that meets fmt, with fmt's text TOLD by the authors' own Lean function (tested against real Go, not proved from fmt's source: count such statements apart). THE CARD IS WHAT COUNTS. Prove the row's statement (the work); the ties are given (Qxb6608707aDoorTie.lean); close each card by the builder's one call (the guide's Derived/Test/ToyasCard.lean, 'card_holds'). Laid BY PROGRAM, IN A SANDBOX (cutbox-door.mjs). By AI agents, Wed Nov 11 2026. No macro, syntax, notation, axiom, sorry.
-/
import Derived.Test.Qxb6608707aDoorRows
import GoSem.ClaimSeven
namespace Go.Proofs.Qxb6608707aDoor
namespace Rows

/-- THE TIED CARD OF 'zzlaws_internal_download_b1.FnReadsBodiesAllButTheLightChecks'. -/
def fnReadsBodiesAllButTheLightChecksCard : Claim7 := { stood := { row := fnReadsBodiesAllButTheLightChecksRow, standIns := [], harness := (true, "afd227b293d46004603b1b2eeb15010540563d4466163ef7ad7bf5097f46a67f"), looks := false }, kinds := [], alts := [], laidByText := true, laidKinds := [.mapped], laidTests := true, laidLooks := .later }
def FnReadsBodiesAllButTheLightChecksCardSaid : Prop := Claim7.holds Tryd.pinned (.plain (OpenSpec.ofChange fnReadsBodiesAllButTheLightChecksSpec)) fnReadsBodiesAllButTheLightChecksCard
end Rows
end Go.Proofs.Qxb6608707aDoor
