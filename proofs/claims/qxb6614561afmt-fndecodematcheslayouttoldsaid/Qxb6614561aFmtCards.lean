/-
  DERIVED. GIVEN WITH THE SEED: THE CARDS: each row of Qxb6614561aFmtRows.lean that lists a variable, with what it lists TIED to the program's text (the seventh form; the later family's looks); each row that meets fmt, with fmt's text TOLD by the authors' own Lean function (tested against real Go, not proved from fmt's source: count such statements apart). THE CARD IS WHAT COUNTS. Prove the row's statement (the work); the ties are given (Qxb6614561aFmtTie.lean); close each card by the builder's one call (the guide's Derived/Test/ToyasCard.lean, 'card_holds'). Laid BY PROGRAM, IN A SANDBOX (cutbox-door.mjs). By AI agents, Wed Nov 11 2026. No macro, syntax, notation, axiom, sorry.
-/
import Derived.Test.Qxb6614561aFmtRows
import GoSem.ClaimSeven
namespace Go.Proofs.Qxb6614561aFmt
namespace Rows

/-- THE TOLD CARD OF 'zzlaws_kv_b1.FnDecodeMatchesLayout'. -/
def fnDecodeMatchesLayoutCard : Claim7 := { stood := { row := fnDecodeMatchesLayoutRow, standIns := [], harness := (true, "ae8c38afa03ed4f6358e2357111b57383623790f8be3ab93808cc06469ee7b14"), looks := false }, told := true, goes := false }
def FnDecodeMatchesLayoutToldSaid : Prop := Claim7.holds Tryf.pinned (.plain (OpenSpec.ofChange fnDecodeMatchesLayoutSpec)) fnDecodeMatchesLayoutCard
/-- ITS FALSE NEIGHBOUR. Refute it at one input. -/
def FnDecodeMatchesLayoutToldWrongFalsely : Prop := Claim7.holds Tryf.pinned (.plain (OpenSpec.ofChange fnDecodeMatchesLayoutWrong)) fnDecodeMatchesLayoutCard
end Rows
end Go.Proofs.Qxb6614561aFmt
