/-
  THE CLOSED FACTS FOR THE WALK OVER fmt's STOPPED FRONT (after the guide's make), and fmt.Errorf's contracts: a new error, whatever the text.
-/
import Derived.Test.Qxb6614561aFmtNumberAny
import Derived.Stop.CallBack
import Derived.Stop.IfaceNil
import GoSem.ClaimData
import Derived.KernelRfl
namespace Go.Proofs.Qxb6614561aFmt
open Go Go.RowKit Go.Extern.Stop Go.Stop Go.Extern

@[go_sem] theorem call18 (args : Array Value) (w : World) : (callFunc 18 args).run Tryf.prog w = ((FmtStop.errorf #[9, 54] #[34] args).run Tryf.prog w).andThen fun v w' => .ok (.value v) w' :=
  run_callFunc_extern Tryf.func18 (by kernel_rfl) (by kernel_rfl) (by kernel_rfl) (by kernel_rfl) args w
@[go_sem] theorem guardF (name : String) (w : World) : (FmtStop.guard name).run Tryf.prog w = .ok () w := by kernel_rfl
@[go_sem] theorem fmt0 : FmtStop.printed? ⟨#[107, 118, 58, 32, 117, 110, 107, 110, 111, 119, 110, 32, 111, 112, 101, 114, 97, 116, 105, 111, 110, 32, 37, 100]⟩ 1 = some [(0, 100, false)] := by kernel_rfl
@[go_sem] theorem fmt0r (w : World) : (FmtDoors.printed ⟨#[107, 118, 58, 32, 117, 110, 107, 110, 111, 119, 110, 32, 111, 112, 101, 114, 97, 116, 105, 111, 110, 32, 37, 100]⟩ 1).run Tryf.prog w = .ok [(0, 100, false)] w := by kernel_rfl
@[go_sem] theorem fmt1 : FmtStop.printed? ⟨#[107, 118, 58, 32, 116, 104, 101, 32, 37, 115, 44, 32, 37, 100, 32, 98, 121, 116, 101, 115, 44, 32, 111, 118, 101, 114, 114, 117, 110, 115, 32, 116, 104, 101, 32, 37, 115]⟩ 3 = some [(0, 115, false), (1, 100, false), (2, 115, false)] := by kernel_rfl
@[go_sem] theorem fmt1r (w : World) : (FmtDoors.printed ⟨#[107, 118, 58, 32, 116, 104, 101, 32, 37, 115, 44, 32, 37, 100, 32, 98, 121, 116, 101, 115, 44, 32, 111, 118, 101, 114, 114, 117, 110, 115, 32, 116, 104, 101, 32, 37, 115]⟩ 3).run Tryf.prog w = .ok [(0, 115, false), (1, 100, false), (2, 115, false)] w := by kernel_rfl
def shape3 : List UInt8 := [5, 3, 0, 0, 0, 0, 0, 0, 0, 105, 110, 116]
def shape25 : List UInt8 := [6, 5, 0, 0, 0, 0, 0, 0, 0, 107, 118, 46, 79, 112]
def shape9 : List UInt8 := [12, 6, 0, 0, 0, 0, 0, 0, 0, 115, 116, 114, 105, 110, 103]
@[go_sem] theorem op3_100w (name : String) (x : Int) (w : World) : (FmtStop.operand name true 100 false (.iface 3 (.int .i64 x))).run Tryf.prog w = .ok (shape3, Go.Extern.Stop.digits 8 (x % 2 ^ 64).toNat) w := by kernel_rfl
@[go_sem] theorem op25_100w (name : String) (x : Int) (w : World) : (FmtStop.operand name true 100 false (.iface 25 (.int .u8 x))).run Tryf.prog w = .ok (shape25, Go.Extern.Stop.digits 8 (x % 2 ^ 64).toNat) w := by kernel_rfl
@[go_sem] theorem op9_115w (name : String) (x : ByteArray) (w : World) : (FmtStop.operand name true 115 false (.iface 9 (.string x))).run Tryf.prog w = .ok (shape9, FmtStop.pack x.data.toList) w := by kernel_rfl
@[go_sem] theorem ptr57 (w : World) : (FmtStop.ptrTo "errors.errorString").run Tryf.prog w = .ok 57 w := by kernel_rfl
@[go_sem] theorem elem57 (w : World) : (elemOf 57).run Tryf.prog w = .ok 59 w := by kernel_rfl

/-- fmt.Errorf("kv: unknown operation %d", op): a new error. -/
theorem errorf_op (F : Interp) (x : Int) (blk : Nat) (w : World) (hF : F.answers w.tape) (hc0 : w.cell? ⟨blk, 0, none⟩ = some (.iface 25 (.int .u8 x))) :
    Calls Tryf.prog 14 #[.string ⟨#[107, 118, 58, 32, 117, 110, 107, 110, 111, 119, 110, 32, 111, 112, 101, 114, 97, 116, 105, 111, 110, 32, 37, 100]⟩, .slice (some ⟨blk, 0, none⟩) 1 1] w fun e w' =>
      e = .returned (.iface 57 (.pointer (some ⟨w.heap.size, 0, none⟩))) ∧ Below w.heap.size w w' := by
  have hF' := answers_open hF
  go_enter Tryf.func14, Tryf.ntmps14
  go_wp2
  go_ret
  exact ⟨rfl, ((Below.refl _ _).alloc (Nat.le_refl _) _).drew⟩

/-- fmt.Errorf("kv: the %s, %d bytes, overruns the %s", ..): a new error. -/
theorem errorf_short (F : Interp) (s0 s2 : ByteArray) (x : Int) (blk : Nat) (w : World) (hF : F.answers w.tape) (hc0 : w.cell? ⟨blk, 0, none⟩ = some (.iface 9 (.string s0))) (hc1 : w.cell? ⟨blk, 1, none⟩ = some (.iface 3 (.int .i64 x))) (hc2 : w.cell? ⟨blk, 2, none⟩ = some (.iface 9 (.string s2))) :
    Calls Tryf.prog 14 #[.string ⟨#[107, 118, 58, 32, 116, 104, 101, 32, 37, 115, 44, 32, 37, 100, 32, 98, 121, 116, 101, 115, 44, 32, 111, 118, 101, 114, 114, 117, 110, 115, 32, 116, 104, 101, 32, 37, 115]⟩, .slice (some ⟨blk, 0, none⟩) 3 3] w fun e w' =>
      e = .returned (.iface 57 (.pointer (some ⟨w.heap.size, 0, none⟩))) ∧ Below w.heap.size w w' := by
  have hF' := answers_open hF
  go_enter Tryf.func14, Tryf.ntmps14
  go_wp2
  go_ret
  exact ⟨rfl, ((Below.refl _ _).alloc (Nat.le_refl _) _).drew⟩
end Go.Proofs.Qxb6614561aFmt
