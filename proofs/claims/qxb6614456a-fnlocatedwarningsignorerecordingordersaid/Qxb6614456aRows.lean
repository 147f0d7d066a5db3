/-
  No cell of these rows narrows 'for every input' (looked for: loops, veiled, ifaces, maps, wideKeys, modest, calm, conditions, laid).
  DERIVED. THE GIVEN ROWS OF THIS SEAT. 4 by the template 'for every input the law returns true; each argument reads behind the call as it read before'; 0 by the template 'total and deterministic' (their statements: Qxb6614456aTotals.lean).
  GIVEN WITH THE SEED: the statements are not yours to turn. If you find one false, say at which input.
  Laid BY PROGRAM, IN A SANDBOX (cutbox-rows.mjs): the forced cells as the released guide's own fill.sh prints them over the translation d89b119406d2d7a8… (all of the seat's roots in one cut). By AI agents, Wed Nov 11 2026. No macro, syntax, notation, axiom, sorry.
-/
import Derived.Test.Qxb6614456aChecked
import GoSem.Claim
import GoSem.ClaimJoined
import GoSem.ClaimMapViews
import Derived.JoinedTies
import Derived.KernelRfl
namespace Go.Proofs.Qxb6614456a
/- THE CELL 'sum', in the pinned program and in every row, IS THE sha256 OF THE DUMP (.gsa) THAT Qxb6614456aProg.lean LOADS. Nothing in Lean hashes anything: it is a label: what it is worth is what the hold of that sum in a sandbox is worth. -/
noncomputable def Try.pinned : Pinned := { name := "qxb6614456a", sum := "d89b119406d2d7a844b1122914487ff82ab3e34f7f21e636ab61085a4f28aa48", checked := Try.checked }
namespace Rows
def none {H : Type} : Left H := { results := [], args := [] }

/-- 'zzlaws_root_b1.FnIsDomainIDOverConcatenation': WHATEVER THE INPUT: true; the input reads as it did. -/
def fnIsDomainIDOverConcatenationSpec : ChangeSpec := { name := "fnIsDomainIDOverConcatenation", fn := fun _ => fun
  | [d1, d2] => { results := [.lit (.bool true)], args := [d1, d2] }
  | _ => none }
def fnIsDomainIDOverConcatenationRow : OpenClaim := { program := "qxb6614456a", sum := "d89b119406d2d7a844b1122914487ff82ab3e34f7f21e636ab61085a4f28aa48", func := "example.com/principal/principal/zzlaws_root_b1.FnIsDomainIDOverConcatenation", spec := "fnIsDomainIDOverConcatenation", inPlace := ["internal/bytealg.IndexByteString"], plainKeys := false, apart := false }
def FnIsDomainIDOverConcatenationSaid : Prop := fnIsDomainIDOverConcatenationRow.holds Try.pinned (OpenSpec.ofChange fnIsDomainIDOverConcatenationSpec)

/-- ITS FALSE NEIGHBOUR: 'it returns false'. Refute it at one input. -/
def fnIsDomainIDOverConcatenationWrong : ChangeSpec := { name := "fnIsDomainIDOverConcatenation", fn := fun _ => fun
  | [d1, d2] => { results := [.lit (.bool false)], args := [d1, d2] }
  | _ => none }
def FnIsDomainIDOverConcatenationWrongFalsely : Prop := fnIsDomainIDOverConcatenationRow.holds Try.pinned (OpenSpec.ofChange fnIsDomainIDOverConcatenationWrong)

/-- 'zzlaws_root_b1.FnIsDomainIDAfterStrippingSeparators': WHATEVER THE INPUT: true; the input reads as it did. -/
def fnIsDomainIDAfterStrippingSeparatorsSpec : ChangeSpec := { name := "fnIsDomainIDAfterStrippingSeparators", fn := fun _ => fun
  | [d] => { results := [.lit (.bool true)], args := [d] }
  | _ => none }
def fnIsDomainIDAfterStrippingSeparatorsRow : OpenClaim := { program := "qxb6614456a", sum := "d89b119406d2d7a844b1122914487ff82ab3e34f7f21e636ab61085a4f28aa48", func := "example.com/principal/principal/zzlaws_root_b1.FnIsDomainIDAfterStrippingSeparators", spec := "fnIsDomainIDAfterStrippingSeparators", inPlace := ["internal/bytealg.IndexByteString"], plainKeys := false, apart := false }
def FnIsDomainIDAfterStrippingSeparatorsSaid : Prop := fnIsDomainIDAfterStrippingSeparatorsRow.holds Try.pinned (OpenSpec.ofChange fnIsDomainIDAfterStrippingSeparatorsSpec)

/-- ITS FALSE NEIGHBOUR: 'it returns false'. Refute it at one input. -/
def fnIsDomainIDAfterStrippingSeparatorsWrong : ChangeSpec := { name := "fnIsDomainIDAfterStrippingSeparators", fn := fun _ => fun
  | [d] => { results := [.lit (.bool false)], args := [d] }
  | _ => none }
def FnIsDomainIDAfterStrippingSeparatorsWrongFalsely : Prop := fnIsDomainIDAfterStrippingSeparatorsRow.holds Try.pinned (OpenSpec.ofChange fnIsDomainIDAfterStrippingSeparatorsWrong)

/-- 'zzlaws_root_b1.FnLocatedWarningsIgnoreRecordingOrder': WHATEVER THE INPUT: true; the input reads as it did. -/
def fnLocatedWarningsIgnoreRecordingOrderSpec : ChangeSpec := { name := "fnLocatedWarningsIgnoreRecordingOrder", fn := fun _ => fun
  | [d1, d2, d3] => { results := [.lit (.bool true)], args := [d1, d2, d3] }
  | _ => none }
def fnLocatedWarningsIgnoreRecordingOrderRow : OpenClaim := { program := "qxb6614456a", sum := "d89b119406d2d7a844b1122914487ff82ab3e34f7f21e636ab61085a4f28aa48", func := "example.com/principal/principal/zzlaws_root_b1.FnLocatedWarningsIgnoreRecordingOrder", spec := "fnLocatedWarningsIgnoreRecordingOrder", unfollowed := true, recurses := true, plainKeys := false, apart := false }
def FnLocatedWarningsIgnoreRecordingOrderSaid : Prop := fnLocatedWarningsIgnoreRecordingOrderRow.holds Try.pinned (OpenSpec.ofChange fnLocatedWarningsIgnoreRecordingOrderSpec)

/-- ITS FALSE NEIGHBOUR: 'it returns false'. Refute it at one input. -/
def fnLocatedWarningsIgnoreRecordingOrderWrong : ChangeSpec := { name := "fnLocatedWarningsIgnoreRecordingOrder", fn := fun _ => fun
  | [d1, d2, d3] => { results := [.lit (.bool false)], args := [d1, d2, d3] }
  | _ => none }
def FnLocatedWarningsIgnoreRecordingOrderWrongFalsely : Prop := fnLocatedWarningsIgnoreRecordingOrderRow.holds Try.pinned (OpenSpec.ofChange fnLocatedWarningsIgnoreRecordingOrderWrong)

/-- 'zzlaws_root_b1.FnOutcomeNotTwinsDifferByNot': WHATEVER THE INPUT: true; the input reads as it did. -/
def fnOutcomeNotTwinsDifferByNotSpec : ChangeSpec := { name := "fnOutcomeNotTwinsDifferByNot", fn := fun _ => fun
  | [d1, d2, d3, d4, d5, d6, d7] => { results := [.lit (.bool true)], args := [d1, d2, d3, d4, d5, d6, d7] }
  | _ => none }
def fnOutcomeNotTwinsDifferByNotRow : OpenClaim := { program := "qxb6614456a", sum := "d89b119406d2d7a844b1122914487ff82ab3e34f7f21e636ab61085a4f28aa48", func := "example.com/principal/principal/zzlaws_root_b1.FnOutcomeNotTwinsDifferByNot", spec := "fnOutcomeNotTwinsDifferByNot", plainKeys := false, apart := false }
def FnOutcomeNotTwinsDifferByNotSaid : Prop := fnOutcomeNotTwinsDifferByNotRow.holds Try.pinned (OpenSpec.ofChange fnOutcomeNotTwinsDifferByNotSpec)

/-- ITS FALSE NEIGHBOUR: 'it returns false'. Refute it at one input. -/
def fnOutcomeNotTwinsDifferByNotWrong : ChangeSpec := { name := "fnOutcomeNotTwinsDifferByNot", fn := fun _ => fun
  | [d1, d2, d3, d4, d5, d6, d7] => { results := [.lit (.bool false)], args := [d1, d2, d3, d4, d5, d6, d7] }
  | _ => none }
def FnOutcomeNotTwinsDifferByNotWrongFalsely : Prop := fnOutcomeNotTwinsDifferByNotRow.holds Try.pinned (OpenSpec.ofChange fnOutcomeNotTwinsDifferByNotWrong)

end Rows
end Go.Proofs.Qxb6614456a
