/-
  THE DATA of the law: warnings, bytes, and the blocks that hold them.
-/
import Derived.Test.Qxb6614456aProg
import Derived.WalkKit
import Derived.WalkSpells
import Derived.WalkLawsBesides
import Derived.Below
import Derived.Deep.QuietTactic
import Derived.BigQuiet
import Derived.Outline
import Derived.Deep.OwnRows
import Derived.Laws.CopyOwn
import Derived.Lib.SliceRun
namespace Go.Proofs.Qxb6614456a
open Go Go.RowKit

/-- A warning as recorded. -/
structure Wn where
  off : Int
  line : Int
  col : Int
  path : ByteArray
  nj : Bool
  msg : ByteArray

/-- The cells of a warning. -/
def Wn.cells (x : Wn) : List Value := [.int .i64 x.off, .int .i64 x.line, .int .i64 x.col, .string x.path, .bool x.nj, .string x.msg]

/-- The six cells at offset o of block g. -/
structure At6 (w : World) (g o : Nat) (x : Wn) : Prop where
  c0 : w.cell? ⟨g, o, none⟩ = some (.int .i64 x.off)
  c1 : w.cell? ⟨g, o + 1, none⟩ = some (.int .i64 x.line)
  c2 : w.cell? ⟨g, o + 2, none⟩ = some (.int .i64 x.col)
  c3 : w.cell? ⟨g, o + 3, none⟩ = some (.string x.path)
  c4 : w.cell? ⟨g, o + 4, none⟩ = some (.bool x.nj)
  c5 : w.cell? ⟨g, o + 5, none⟩ = some (.string x.msg)

/-- The slice at ao reads as ws. -/
def WsAt (w : World) (ao : Option Addr) (ws : List Wn) : Prop := ∀ j (h : j < ws.length), ∃ g q, ao = some ⟨g, q, none⟩ ∧ g < w.heap.size ∧ ∀ i (h : i < ws.length), At6 w g (q + i * 6) ws[i]

/-- The slice at ao reads as the bytes bs. -/
def BsAt (w : World) (ao : Option Addr) (bs : List UInt8) : Prop := ∀ j (h : j < bs.length), ∃ g q, ao = some ⟨g, q, none⟩ ∧ g < w.heap.size ∧ ∀ i (h : i < bs.length), w.cell? ⟨g, q + i, none⟩ = some (.int .u8 (bs[i].toNat : Int))

theorem At6.below {w w' : World} {B g o : Nat} {x : Wn} (h : At6 w g o x) (hb : Below B w w') (hg : g < B) : At6 w' g o x := by
  obtain ⟨h0, h1, h2, h3, h4, h5⟩ := h
  constructor <;> (rw [hb.cell (by exact hg)]; assumption)

theorem WsAt.below {w w' : World} {ao : Option Addr} {ws : List Wn} (h : WsAt w ao ws) (hb : Below w.heap.size w w') : WsAt w' ao ws := by
  intro j hj
  obtain ⟨g, q, h1, h2, h3⟩ := h j hj
  exact ⟨g, q, h1, Nat.lt_of_lt_of_le h2 hb.size, fun i hi => (h3 i hi).below hb h2⟩

theorem BsAt.below {w w' : World} {ao : Option Addr} {bs : List UInt8} {B : Nat} (h : BsAt w ao bs) (hb : Below B w w') (hB : ∀ g q, ao = some ⟨g, q, none⟩ → g < B) : BsAt w' ao bs := by
  intro j hj
  obtain ⟨g, q, h1, h2, h3⟩ := h j hj
  exact ⟨g, q, h1, Nat.lt_of_lt_of_le h2 hb.size, fun i hi => by rw [hb.cell (p := ⟨g, q + i, none⟩) (hB g q h1)]; exact h3 i hi⟩

theorem ret_bool {a b : Bool} (h : a = b) : Ending.returned (.bool a) = .returned (.bool b) := by rw [h]

theorem add_ok (n l : Int) (h0 : 0 ≤ n) (h1 : n ≤ 1048576) (h2 : 0 ≤ l) (h3 : l ≤ 1048576 - n) (w : World) : Calls Try.prog 24 #[.int .i64 n, .int .i64 l] w fun e w' => e = .returned (.tuple #[.int .i64 (n + l), .bool true]) ∧ w' = w := by
  have h' : ¬ (1048576 - n < l) := by omega
  go_enter Try.func24, Try.ntmps24
  go_wp2
  go_ret2
  exact ⟨by simp, rfl⟩

theorem add_no (n l : Int) (h0 : 0 ≤ n) (h1 : n ≤ 1048576) (h3 : 1048576 - n < l) (w : World) : Calls Try.prog 24 #[.int .i64 n, .int .i64 l] w fun e w' => e = .returned (.tuple #[.int .i64 n, .bool false]) ∧ w' = w := by
  go_enter Try.func24, Try.ntmps24
  go_wp2
  go_ret2
  exact ⟨rfl, rfl⟩
end Go.Proofs.Qxb6614456a
