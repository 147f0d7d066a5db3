/-
  No cell of these rows narrows 'for every input' (looked for: loops, veiled, ifaces, maps, wideKeys, modest, calm, conditions, laid).
  DERIVED. THE GIVEN ROWS OF THIS SEAT. 1 by the template 'for every input the law returns true; each argument reads behind the call as it read before'; 0 by the template 'total and deterministic' (their statements: Qxb6614561aTotals.lean).
  GIVEN WITH THE SEED: the statements are not yours to turn. If you find one false, say at which input.
  Laid BY PROGRAM, IN A SANDBOX (cutbox-rows.mjs): the forced cells as the released guide's own fill.sh prints them over the translation ff75eae23260c500… (all of the seat's roots in one cut). By AI agents, Wed Nov 11 2026. No macro, syntax, notation, axiom, sorry.
-/
import Derived.Test.Qxb6614561aChecked
import GoSem.Claim
import GoSem.ClaimJoined
import GoSem.ClaimMapViews
import Derived.JoinedTies
import Derived.KernelRfl
namespace Go.Proofs.Qxb6614561a
/- THE CELL 'sum', in the pinned program and in every row, IS THE sha256 OF THE DUMP (.gsa) THAT Qxb6614561aProg.lean LOADS. Nothing in Lean hashes anything: it is a label: what it is worth is what the hold of that sum in a sandbox is worth. -/
noncomputable def Try.pinned : Pinned := { name := "qxb6614561a", sum := "ff75eae23260c5009ea7e604bc145945a11a7f6e129bcfa958cd8a298cd9c116", checked := Try.checked }
namespace Rows
def none {H : Type} : Left H := { results := [], args := [] }

/-- 'zzlaws_kv_b1.FnDeadlineKeyOrdersAndInverts': WHATEVER THE INPUT: true; the input reads as it did. -/
def fnDeadlineKeyOrdersAndInvertsSpec : ChangeSpec := { name := "fnDeadlineKeyOrdersAndInverts", fn := fun _ => fun
  | [d1, d2, d3, d4] => { results := [.lit (.bool true)], args := [d1, d2, d3, d4] }
  | _ => none }
def fnDeadlineKeyOrdersAndInvertsRow : OpenClaim := { program := "qxb6614561a", sum := "ff75eae23260c5009ea7e604bc145945a11a7f6e129bcfa958cd8a298cd9c116", func := "example.com/quorumlog/quorumlog/zzlaws_kv_b1.FnDeadlineKeyOrdersAndInverts", spec := "fnDeadlineKeyOrdersAndInverts", named := ["encoding/binary.BigEndian"], apart := false }
def FnDeadlineKeyOrdersAndInvertsSaid : Prop := fnDeadlineKeyOrdersAndInvertsRow.holds Try.pinned (OpenSpec.ofChange fnDeadlineKeyOrdersAndInvertsSpec)

/-- ITS FALSE NEIGHBOUR: 'it returns false'. Refute it at one input. -/
def fnDeadlineKeyOrdersAndInvertsWrong : ChangeSpec := { name := "fnDeadlineKeyOrdersAndInverts", fn := fun _ => fun
  | [d1, d2, d3, d4] => { results := [.lit (.bool false)], args := [d1, d2, d3, d4] }
  | _ => none }
def FnDeadlineKeyOrdersAndInvertsWrongFalsely : Prop := fnDeadlineKeyOrdersAndInvertsRow.holds Try.pinned (OpenSpec.ofChange fnDeadlineKeyOrdersAndInvertsWrong)

end Rows
end Go.Proofs.Qxb6614561a
