/-
  No cell of these rows narrows 'for every input' (looked for: loops, veiled, ifaces, maps, wideKeys, modest, calm, conditions, laid).
  DERIVED. THE GIVEN ROWS OF THIS SEAT. 1 by the template 'for every input the law returns true; each argument reads behind the call as it read before'; 0 by the template 'total and deterministic' (their statements: Qxb6614561aFmtTotals.lean).
  GIVEN WITH THE SEED: the statements are not yours to turn. If you find one false, say at which input.
  Laid BY PROGRAM, IN A SANDBOX (cutbox-rows.mjs): the forced cells as the released guide's own fill.sh prints them over the translation 0383c8bc089d2df9… (all of the seat's roots in one cut). By AI agents, Wed Nov 11 2026. No macro, syntax, notation, axiom, sorry.
-/
import Derived.Test.Qxb6614561aFmtChecked
import GoSem.Claim
import GoSem.ClaimJoined
import GoSem.ClaimMapViews
import Derived.JoinedTies
import Derived.KernelRfl
namespace Go.Proofs.Qxb6614561aFmt
/- THE CELL 'sum', in the pinned program and in every row, IS THE sha256 OF THE DUMP (.gsa) THAT Qxb6614561aFmtProg.lean LOADS. Nothing in Lean hashes anything: it is a label: what it is worth is what the hold of that sum in a sandbox is worth. -/
noncomputable def Tryf.pinned : Pinned := { name := "qxb6614561afmt", sum := "0383c8bc089d2df9df5e45d6e0cfb3fb4c34cc116d44720d2a376da01bbe5797", checked := Tryf.checked }
namespace Rows
def none {H : Type} : Left H := { results := [], args := [] }

/-- 'zzlaws_kv_b1.FnDecodeMatchesLayout': WHATEVER THE INPUT: true; the input reads as it did. -/
def fnDecodeMatchesLayoutSpec : ChangeSpec := { name := "fnDecodeMatchesLayout", fn := fun _ => fun
  | [d] => { results := [.lit (.bool true)], args := [d] }
  | _ => none }
def fnDecodeMatchesLayoutRow : OpenClaim := { program := "qxb6614561afmt", sum := "0383c8bc089d2df9df5e45d6e0cfb3fb4c34cc116d44720d2a376da01bbe5797", func := "example.com/quorumlog/quorumlog/zzlaws_kv_b1.FnDecodeMatchesLayout", spec := "fnDecodeMatchesLayout", stops := ["fmt.errorf"], inPlace := ["fmt.errorf"], named := ["encoding/binary.BigEndian"], apart := false }
/-- NO THEOREM (fmt's text is open here; it may be false): for the released tool's asking of the row's closed facts alone. THE STATEMENT IS 'FnDecodeMatchesLayoutToldSaid' (Qxb6614561aFmtCards.lean). -/
def FnDecodeMatchesLayoutFormAsk : Prop := fnDecodeMatchesLayoutRow.holds Tryf.pinned (OpenSpec.ofChange fnDecodeMatchesLayoutSpec)

/-- ITS FALSE NEIGHBOUR: 'it returns false'. Refute it at one input. -/
def fnDecodeMatchesLayoutWrong : ChangeSpec := { name := "fnDecodeMatchesLayout", fn := fun _ => fun
  | [d] => { results := [.lit (.bool false)], args := [d] }
  | _ => none }
def FnDecodeMatchesLayoutWrongFormAsk : Prop := fnDecodeMatchesLayoutRow.holds Tryf.pinned (OpenSpec.ofChange fnDecodeMatchesLayoutWrong)

end Rows
end Go.Proofs.Qxb6614561aFmt
