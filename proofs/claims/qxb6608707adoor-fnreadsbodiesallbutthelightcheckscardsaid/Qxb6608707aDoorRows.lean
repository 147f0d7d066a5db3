/-
  NARROWER THAN 'FOR EVERY INPUT', by the rows' own cells (each row's printed sentence says how): FnReadsBodiesAllButTheLightChecks: maps, laid.
  DERIVED. THE GIVEN ROWS OF THIS SEAT. 1 by the template 'for every input the law returns true; each argument reads behind the call as it read before'; 0 by the template 'total and deterministic' (their statements: Qxb6608707aDoorTotals.lean).
  GIVEN WITH THE SEED: the statements are not yours to turn. If you find one false, say at which input.
  Laid BY PROGRAM, IN A SANDBOX (cutbox-rows.mjs): the forced cells as the released guide's own fill.sh prints them over the translation b2322291b00d9799… (all of the seat's roots in one cut). By AI agents, Wed Nov 11 2026. No macro, syntax, notation, axiom, sorry.
-/
import Derived.Test.Qxb6608707aDoorChecked
import GoSem.Claim
import GoSem.ClaimJoined
import GoSem.ClaimMapViews
import Derived.JoinedTies
import Derived.KernelRfl
namespace Go.Proofs.Qxb6608707aDoor
/- THE CELL 'sum', in the pinned program and in every row, IS THE sha256 OF THE DUMP (.gsa) THAT Qxb6608707aDoorProg.lean LOADS. Nothing in Lean hashes anything: it is a label: what it is worth is what the hold of that sum in a sandbox is worth. -/
noncomputable def Tryd.pinned : Pinned := { name := "qxb6608707adoor", sum := "b2322291b00d979944bc9ef79cb79055699c47d9ef555dd6137ba5bedd65efde", checked := Tryd.checked }
namespace Rows
def none {H : Type} : Left H := { results := [], args := [] }

/- WHAT THE LISTED PACKAGE-LEVEL VARIABLES READ AS WHEN THE CALL BEGINS. Each datum BY PROGRAM (the guide's laid-datum.mjs) off the statement by which the dump's own 'gosem.cut.vars' lays the variable. In a bare row this is a premise. The card (Qxb6608707aDoorCards.lean) ties it to the program's text. -/
def laid_example_com_carryall_carryall_internal_download_checks {H : Type} : DataW H := .map [(.string [48], .agg [.lit (.string [119, 114, 105, 116, 101, 115]), .lit (.bool true), .lit (.string [119, 114, 105, 116, 101, 32, 37, 91, 49, 93, 115, 32, 105, 110, 116, 111, 32, 37, 91, 50, 93, 115])]), (.string [49], .agg [.lit (.string [105, 103, 110, 111, 114, 101, 115]), .lit (.bool false), .lit (.string [99, 104, 101, 99, 107, 32, 98, 121, 32, 116, 104, 101, 105, 114, 32, 104, 101, 97, 100, 101, 114, 115, 32, 97, 108, 111, 110, 101, 32, 116, 104, 97, 116, 32, 37, 91, 49, 93, 115, 32, 97, 114, 101, 32, 116, 104, 101, 114, 101])]), (.string [50], .agg [.lit (.string [105, 103, 110, 111, 114, 101, 115]), .lit (.bool true), .lit (.string [99, 104, 101, 99, 107, 32, 116, 104, 101, 32, 98, 111, 100, 105, 101, 115, 32, 111, 102, 32, 37, 91, 49, 93, 115, 32, 97, 103, 97, 105, 110, 115, 116, 32, 116, 104, 101, 105, 114, 32, 115, 117, 98, 106, 101, 99, 116, 115])]), (.string [51], .agg [.lit (.string [114, 101, 97, 100, 115]), .lit (.bool false), .lit (.string [99, 104, 101, 99, 107, 32, 116, 104, 101, 32, 77, 68, 53, 32, 100, 105, 103, 101, 115, 116, 115, 32, 116, 104, 97, 116, 32, 116, 104, 101, 32, 115, 117, 98, 106, 101, 99, 116, 115, 32, 111, 102, 32, 37, 91, 49, 93, 115, 32, 115, 116, 97, 116, 101, 32, 97, 103, 97, 105, 110, 115, 116, 32, 37, 91, 50, 93, 115])]), (.string [52], .agg [.lit (.string [114, 101, 97, 100, 115]), .lit (.bool true), .lit (.string [99, 104, 101, 99, 107, 32, 116, 104, 101, 32, 98, 111, 100, 105, 101, 115, 32, 111, 102, 32, 37, 91, 49, 93, 115, 32, 97, 103, 97, 105, 110, 115, 116, 32, 116, 104, 101, 105, 114, 32, 115, 117, 98, 106, 101, 99, 116, 115, 32, 97, 110, 100, 32, 97, 103, 97, 105, 110, 115, 116, 32, 37, 91, 50, 93, 115])]), (.string [53], .agg [.lit (.string [119, 114, 105, 116, 101, 115, 32, 100, 105, 103, 101, 115, 116, 115]), .lit (.bool true), .lit (.string [99, 104, 101, 99, 107, 32, 116, 104, 101, 32, 98, 111, 100, 105, 101, 115, 32, 111, 102, 32, 37, 91, 49, 93, 115, 32, 97, 103, 97, 105, 110, 115, 116, 32, 116, 104, 101, 105, 114, 32, 115, 117, 98, 106, 101, 99, 116, 115, 32, 97, 110, 100, 32, 119, 114, 105, 116, 101, 32, 116, 104, 101, 105, 114, 32, 77, 68, 53, 32, 100, 105, 103, 101, 115, 116, 115, 32, 105, 110, 116, 111, 32, 116, 104, 101, 32, 100, 105, 103, 101, 115, 116, 32, 102, 105, 108, 101, 32, 37, 91, 50, 93, 115])]), (.string [54], .agg [.lit (.string [114, 101, 97, 100, 115, 32, 100, 105, 103, 101, 115, 116, 115]), .lit (.bool false), .lit (.string [99, 104, 101, 99, 107, 32, 116, 104, 101, 32, 77, 68, 53, 32, 100, 105, 103, 101, 115, 116, 115, 32, 116, 104, 97, 116, 32, 116, 104, 101, 32, 115, 117, 98, 106, 101, 99, 116, 115, 32, 111, 102, 32, 37, 91, 49, 93, 115, 32, 115, 116, 97, 116, 101, 32, 97, 103, 97, 105, 110, 115, 116, 32, 116, 104, 101, 32, 100, 105, 103, 101, 115, 116, 32, 102, 105, 108, 101, 32, 37, 91, 50, 93, 115])]), (.string [55], .agg [.lit (.string [114, 101, 97, 100, 115, 32, 100, 105, 103, 101, 115, 116, 115]), .lit (.bool true), .lit (.string [99, 104, 101, 99, 107, 32, 116, 104, 101, 32, 98, 111, 100, 105, 101, 115, 32, 111, 102, 32, 37, 91, 49, 93, 115, 32, 97, 103, 97, 105, 110, 115, 116, 32, 116, 104, 101, 105, 114, 32, 115, 117, 98, 106, 101, 99, 116, 115, 32, 97, 110, 100, 32, 97, 103, 97, 105, 110, 115, 116, 32, 116, 104, 101, 32, 100, 105, 103, 101, 115, 116, 32, 102, 105, 108, 101, 32, 37, 91, 50, 93, 115])])]

/-- 'zzlaws_internal_download_b1.FnReadsBodiesAllButTheLightChecks': WHATEVER THE INPUT: true; the input reads as it did. -/
def fnReadsBodiesAllButTheLightChecksSpec : ChangeSpec := { name := "fnReadsBodiesAllButTheLightChecks", vars := ["example.com/carryall/carryall/internal/download.checks"], fn := fun _ => fun
  | [d, g1] => { results := [.lit (.bool true)], args := [d], vars := [g1] }
  | _ => none }
def fnReadsBodiesAllButTheLightChecksRow : OpenClaim := { program := "qxb6608707adoor", sum := "b2322291b00d979944bc9ef79cb79055699c47d9ef555dd6137ba5bedd65efde", func := "example.com/carryall/carryall/zzlaws_internal_download_b1.FnReadsBodiesAllButTheLightChecks", spec := "fnReadsBodiesAllButTheLightChecks", named := ["example.com/carryall/carryall/internal/download.checks"], maps := true, apart := false, laid := [("example.com/carryall/carryall/internal/download.checks", laid_example_com_carryall_carryall_internal_download_checks)] }
def FnReadsBodiesAllButTheLightChecksSaid : Prop := fnReadsBodiesAllButTheLightChecksRow.holds Tryd.pinned (OpenSpec.ofChange fnReadsBodiesAllButTheLightChecksSpec)

/-- ITS FALSE NEIGHBOUR: 'it returns false'. Refute it at one input. -/
def fnReadsBodiesAllButTheLightChecksWrong : ChangeSpec := { name := "fnReadsBodiesAllButTheLightChecks", vars := ["example.com/carryall/carryall/internal/download.checks"], fn := fun _ => fun
  | [d, g1] => { results := [.lit (.bool false)], args := [d], vars := [g1] }
  | _ => none }
def FnReadsBodiesAllButTheLightChecksWrongFalsely : Prop := fnReadsBodiesAllButTheLightChecksRow.holds Tryd.pinned (OpenSpec.ofChange fnReadsBodiesAllButTheLightChecksWrong)

end Rows
end Go.Proofs.Qxb6608707aDoor
