/-
  No cell of these rows narrows 'for every input' (looked for: loops, veiled, ifaces, maps, wideKeys, modest, calm, conditions, laid).
  DERIVED. THE GIVEN ROWS OF THIS SEAT. 2 by the template 'for every input the law returns true; each argument reads behind the call as it read before'; 0 by the template 'total and deterministic' (their statements: Qxb6608987aTotals.lean).
  GIVEN WITH THE SEED: the statements are not yours to turn. If you find one false, say at which input.
  Laid BY PROGRAM, IN A SANDBOX (cutbox-rows.mjs): the forced cells as the released guide's own fill.sh prints them over the translation 19cfe9482b156b37… (all of the seat's roots in one cut). By AI agents, Wed Nov 11 2026. No macro, syntax, notation, axiom, sorry.
-/
import Derived.Test.Qxb6608987aChecked
import GoSem.Claim
import GoSem.ClaimJoined
import GoSem.ClaimMapViews
import Derived.JoinedTies
import Derived.KernelRfl
namespace Go.Proofs.Qxb6608987a
/- THE CELL 'sum', in the pinned program and in every row, IS THE sha256 OF THE DUMP (.gsa) THAT Qxb6608987aProg.lean LOADS. Nothing in Lean hashes anything: it is a label: what it is worth is what the hold of that sum in a sandbox is worth. -/
noncomputable def Try.pinned : Pinned := { name := "qxb6608987a", sum := "19cfe9482b156b37a1744447aa1472d72cccdfb388c9073e97c0763cac6b5501", checked := Try.checked }
namespace Rows
def none {H : Type} : Left H := { results := [], args := [] }

/-- 'zzlaws_wal_b1.FnBytesSizeDigitRecursion': WHATEVER THE INPUT: true; the input reads as it did. -/
def fnBytesSizeDigitRecursionSpec : ChangeSpec := { name := "fnBytesSizeDigitRecursion", fn := fun _ => fun
  | [d] => { results := [.lit (.bool true)], args := [d] }
  | _ => none }
def fnBytesSizeDigitRecursionRow : OpenClaim := { program := "qxb6608987a", sum := "19cfe9482b156b37a1744447aa1472d72cccdfb388c9073e97c0763cac6b5501", func := "example.com/pactline/pactline/zzlaws_wal_b1.FnBytesSizeDigitRecursion", spec := "fnBytesSizeDigitRecursion", apart := false }
def FnBytesSizeDigitRecursionSaid : Prop := fnBytesSizeDigitRecursionRow.holds Try.pinned (OpenSpec.ofChange fnBytesSizeDigitRecursionSpec)

/-- ITS FALSE NEIGHBOUR: 'it returns false'. Refute it at one input. -/
def fnBytesSizeDigitRecursionWrong : ChangeSpec := { name := "fnBytesSizeDigitRecursion", fn := fun _ => fun
  | [d] => { results := [.lit (.bool false)], args := [d] }
  | _ => none }
def FnBytesSizeDigitRecursionWrongFalsely : Prop := fnBytesSizeDigitRecursionRow.holds Try.pinned (OpenSpec.ofChange fnBytesSizeDigitRecursionWrong)

/-- 'zzlaws_wal_b1.FnBytesSizeStep': WHATEVER THE INPUT: true; the input reads as it did. -/
def fnBytesSizeStepSpec : ChangeSpec := { name := "fnBytesSizeStep", fn := fun _ => fun
  | [d] => { results := [.lit (.bool true)], args := [d] }
  | _ => none }
def fnBytesSizeStepRow : OpenClaim := { program := "qxb6608987a", sum := "19cfe9482b156b37a1744447aa1472d72cccdfb388c9073e97c0763cac6b5501", func := "example.com/pactline/pactline/zzlaws_wal_b1.FnBytesSizeStep", spec := "fnBytesSizeStep", apart := false }
def FnBytesSizeStepSaid : Prop := fnBytesSizeStepRow.holds Try.pinned (OpenSpec.ofChange fnBytesSizeStepSpec)

/-- ITS FALSE NEIGHBOUR: 'it returns false'. Refute it at one input. -/
def fnBytesSizeStepWrong : ChangeSpec := { name := "fnBytesSizeStep", fn := fun _ => fun
  | [d] => { results := [.lit (.bool false)], args := [d] }
  | _ => none }
def FnBytesSizeStepWrongFalsely : Prop := fnBytesSizeStepRow.holds Try.pinned (OpenSpec.ofChange fnBytesSizeStepWrong)

end Rows
end Go.Proofs.Qxb6608987a
