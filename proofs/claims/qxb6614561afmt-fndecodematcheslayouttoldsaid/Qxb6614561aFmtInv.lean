/-
  THE COMMAND's CELLS AND THE DECODER's, carried through DecodeInto; the layout's places.
-/
import Derived.Test.Qxb6614561aFmtErr
import Derived.Laws.IdiomStrings
import Derived.Laws.BytesArg
import Derived.Deep.CutRange
import Derived.Deep.DeepCutAuto
namespace Go.Proofs.Qxb6614561aFmt
open Go Go.RowKit Go.Extern.Stop Go.Stop Go.Extern

/-- A command's sixteen cells. -/
abbrev cmdA (o key val old s0 s1 s2 s3 le ttl co rev ol fo fr cl : Value) : Array Value := #[o, key, val, old, s0, s1, s2, s3, le, ttl, co, rev, ol, fo, fr, cl]
abbrev zeroA : Array Value := cmdA (.int .u8 0) (.string ⟨#[]⟩) (.slice none 0 0) (.slice none 0 0) (.int .u64 0) (.int .u64 0) (.int .i64 0) (.int .i64 0) (.int .u64 0) (.int .i64 0) (.bool false) (.int .u64 0) (.int .u64 0) (.int .u64 0) (.int .u64 0) (.int .i64 0)

/-- The command lies in block C. -/
def Cmd (w : World) (C : Nat) (a : Array Value) : Prop := w.heap[C]? = some (.cells a 30 (0, 0))

theorem Cmd.cell {w : World} {C : Nat} {a : Array Value} (h : Cmd w C a) (j : Nat) : w.cell? ⟨C, j, none⟩ = a[j]? := by
  have h' : w.heap[C]? = some (.cells a 30 (0, 0)) := h
  simp [World.cell?, h']
theorem Cmd.frozen {w : World} {C : Nat} {a : Array Value} (h : Cmd w C a) (j : Nat) : w.frozen? ⟨C, j, none⟩ = false := by
  have h' : w.heap[C]? = some (.cells a 30 (0, 0)) := h
  simp [World.frozen?, h']
theorem Cmd.set {w : World} {C : Nat} {a : Array Value} (h : Cmd w C a) (j : Nat) (v : Value) : Cmd (w.setCell ⟨C, j, none⟩ v) C (a.setIfInBounds j v) := heap_setCell_at h
theorem Cmd.below {w w' : World} {C D : Nat} {a : Array Value} (h : Cmd w C a) (hb : Below D w w') (hC : C < D) : Cmd w' C a := (hb.block C hC).trans h
theorem Dec.other {w w' : World} {D : Nat} {v : Value} {sh : Bool} (h : Dec w D v sh) (e : w'.heap[D]? = w.heap[D]?) : Dec w' D v sh := by
  obtain ⟨s, ov, wt, hD⟩ := h
  exact ⟨s, ov, wt, e.trans hD⟩
theorem St.other {w w' : World} {D g : Nat} {bs : List UInt8} {P : Nat} (h : St w D g bs P) (e : w'.heap[D]? = w.heap[D]?) : St w' D g bs P := by
  rcases h with ⟨h1, ao, h2, h3⟩ | ⟨h1, ao, m, c, h2, h3⟩
  · exact .inl ⟨h1, ao, h2.other e, h3⟩
  · exact .inr ⟨h1, ao, m, c, h2.other e, h3⟩
theorem St.set {w : World} {D g C : Nat} {bs : List UInt8} {P : Nat} (h : St w D g bs P) (hne : D ≠ C) (j : Nat) (v : Value) : St (w.setCell ⟨C, j, none⟩ v) D g bs P :=
  h.other (Below.heap_setCell w _ v D hne)

/-- The decoder as DecodeInto lays it. -/
abbrev decO (ao : Option Addr) (n : Nat) : Obj := .cells #[.slice ao n n, .string ⟨#[99, 111, 109, 109, 97, 110, 100]⟩, .bool false, .string ⟨#[]⟩, .int .i64 0] 45

theorem st_start (g n : Nat) (bs : List UInt8) (hn : bs.length = n) (ao : Option Addr) (w : World) (hao : ao = some ⟨g, 0, none⟩ ∨ (ao = none ∧ bs = [])) : St (w.alloc (decO ao n)) w.heap.size g bs 0 := by
  subst hn
  refine .inl ⟨Nat.zero_le _, ao, ⟨_, _, _, (MapKept.heap_alloc w _).1⟩, ?_, ?_⟩
  · intro h1; rcases hao with rfl | ⟨_, rfl⟩
    · exact ⟨0, rfl⟩
    · simp at h1
  · intro h1; rcases hao with rfl | ⟨_, rfl⟩
    · rfl
    · simp at h1

theorem St.short {w : World} {D g : Nat} {bs : List UInt8} {P : Nat} (h : St w D g bs P) : w.cell? ⟨D, 2, none⟩ = some (.bool (decide (bs.length < P))) := by
  rcases h with ⟨h1, ao, h2, h3⟩ | ⟨h1, ao, m, c, h2, h3⟩
  · rw [h2.cells.2]; simp; omega
  · rw [h2.cells.2]; simp; omega

/-- WHAT STANDS AT EACH CUT of DecodeInto: the decoder at place P, the command's cells, the bytes; below the command's block nothing has turned. -/
structure Inv (w0 : World) (C D g : Nat) (bs : List UInt8) (P : Nat) (arr : Array Value) (wx : World) : Prop where
  st : St wx D g bs P
  cmd : Cmd wx C arr
  bytes : Bs wx g bs
  bel : Below C w0 wx
  gC : g < C
  CD : C < D

theorem Inv.call {w0 wx w' : World} {C D g : Nat} {bs : List UInt8} {P P' : Nat} {arr : Array Value} (h : Inv w0 C D g bs P arr wx) (hs : St w' D g bs P') (hb : Below D wx w') : Inv w0 C D g bs P' arr w' :=
  ⟨hs, h.cmd.below hb h.CD, h.bytes.below hb (Nat.lt_trans h.gC h.CD), h.bel.trans (hb.mono (Nat.le_of_lt h.CD)), h.gC, h.CD⟩

theorem Inv.set {w0 wx : World} {C D g : Nat} {bs : List UInt8} {P : Nat} {arr : Array Value} (h : Inv w0 C D g bs P arr wx) (j : Nat) (v : Value) : Inv w0 C D g bs P (arr.setIfInBounds j v) (wx.setCell ⟨C, j, none⟩ v) :=
  ⟨h.st.set (Nat.ne_of_gt h.CD) j v, h.cmd.set j v, fun i hi => by
    have h1 : ((wx.setCell ⟨C, j, none⟩ v).heap)[g]? = wx.heap[g]? := Below.heap_setCell wx _ v g (Nat.ne_of_lt h.gC)
    have h2 := h.bytes i hi
    simp only [World.cell?] at h2 ⊢
    rw [h1]; exact h2, h.bel.setCell (p := ⟨C, j, none⟩) (Nat.le_refl _) v, h.gC, h.CD⟩

theorem Inv.set16 {w0 wx : World} {C D g : Nat} {bs : List UInt8} {P : Nat} {a0 a1 a2 a3 a4 a5 a6 a7 a8 a9 a10 a11 a12 a13 a14 a15 : Value} (h : Inv w0 C D g bs P (cmdA a0 a1 a2 a3 a4 a5 a6 a7 a8 a9 a10 a11 a12 a13 a14 a15) wx)
    (b0 b1 b2 b3 b4 b5 b6 b7 b8 b9 b10 b11 b12 b13 b14 b15 : Value) : Inv w0 C D g bs P (cmdA b0 b1 b2 b3 b4 b5 b6 b7 b8 b9 b10 b11 b12 b13 b14 b15)
      ((((((((((((((((wx.setCell ⟨C, 0, none⟩ b0).setCell ⟨C, 1, none⟩ b1).setCell ⟨C, 2, none⟩ b2).setCell ⟨C, 3, none⟩ b3).setCell ⟨C, 4, none⟩ b4).setCell ⟨C, 5, none⟩ b5).setCell ⟨C, 6, none⟩ b6).setCell ⟨C, 7, none⟩ b7).setCell ⟨C, 8, none⟩ b8).setCell ⟨C, 9, none⟩ b9).setCell ⟨C, 10, none⟩ b10).setCell ⟨C, 11, none⟩ b11).setCell ⟨C, 12, none⟩ b12).setCell ⟨C, 13, none⟩ b13).setCell ⟨C, 14, none⟩ b14).setCell ⟨C, 15, none⟩ b15) := by
  have h0 : Inv w0 C D g bs P (cmdA b0 a1 a2 a3 a4 a5 a6 a7 a8 a9 a10 a11 a12 a13 a14 a15) _ := h.set 0 b0
  have h1 : Inv w0 C D g bs P (cmdA b0 b1 a2 a3 a4 a5 a6 a7 a8 a9 a10 a11 a12 a13 a14 a15) _ := h0.set 1 b1
  have h2 : Inv w0 C D g bs P (cmdA b0 b1 b2 a3 a4 a5 a6 a7 a8 a9 a10 a11 a12 a13 a14 a15) _ := h1.set 2 b2
  have h3 : Inv w0 C D g bs P (cmdA b0 b1 b2 b3 a4 a5 a6 a7 a8 a9 a10 a11 a12 a13 a14 a15) _ := h2.set 3 b3
  have h4 : Inv w0 C D g bs P (cmdA b0 b1 b2 b3 b4 a5 a6 a7 a8 a9 a10 a11 a12 a13 a14 a15) _ := h3.set 4 b4
  have h5 : Inv w0 C D g bs P (cmdA b0 b1 b2 b3 b4 b5 a6 a7 a8 a9 a10 a11 a12 a13 a14 a15) _ := h4.set 5 b5
  have h6 : Inv w0 C D g bs P (cmdA b0 b1 b2 b3 b4 b5 b6 a7 a8 a9 a10 a11 a12 a13 a14 a15) _ := h5.set 6 b6
  have h7 : Inv w0 C D g bs P (cmdA b0 b1 b2 b3 b4 b5 b6 b7 a8 a9 a10 a11 a12 a13 a14 a15) _ := h6.set 7 b7
  have h8 : Inv w0 C D g bs P (cmdA b0 b1 b2 b3 b4 b5 b6 b7 b8 a9 a10 a11 a12 a13 a14 a15) _ := h7.set 8 b8
  have h9 : Inv w0 C D g bs P (cmdA b0 b1 b2 b3 b4 b5 b6 b7 b8 b9 a10 a11 a12 a13 a14 a15) _ := h8.set 9 b9
  have h10 : Inv w0 C D g bs P (cmdA b0 b1 b2 b3 b4 b5 b6 b7 b8 b9 b10 a11 a12 a13 a14 a15) _ := h9.set 10 b10
  have h11 : Inv w0 C D g bs P (cmdA b0 b1 b2 b3 b4 b5 b6 b7 b8 b9 b10 b11 a12 a13 a14 a15) _ := h10.set 11 b11
  have h12 : Inv w0 C D g bs P (cmdA b0 b1 b2 b3 b4 b5 b6 b7 b8 b9 b10 b11 b12 a13 a14 a15) _ := h11.set 12 b12
  have h13 : Inv w0 C D g bs P (cmdA b0 b1 b2 b3 b4 b5 b6 b7 b8 b9 b10 b11 b12 b13 a14 a15) _ := h12.set 13 b13
  have h14 : Inv w0 C D g bs P (cmdA b0 b1 b2 b3 b4 b5 b6 b7 b8 b9 b10 b11 b12 b13 b14 a15) _ := h13.set 14 b14
  have h15 : Inv w0 C D g bs P (cmdA b0 b1 b2 b3 b4 b5 b6 b7 b8 b9 b10 b11 b12 b13 b14 b15) _ := h14.set 15 b15
  exact h15

/-! ### The layout's places -/
def flg (f m : Int) : Bool := bits BinOp.and IntKind.u8 f m != 0
def q2 (f : Int) (p : Nat) : Nat := p + if flg f 32 = true then 32 else 0
def q3 (f : Int) (p : Nat) : Nat := q2 f p + if flg f 16 = true then 8 else 0
def q4 (f : Int) (p : Nat) : Nat := q3 f p + if flg f 8 = true then 8 else 0
def keyLen (bs : List UInt8) (f : Int) (p : Nat) : Nat := be bs (q4 f p) 2
def q6 (bs : List UInt8) (f : Int) (p : Nat) : Nat := q4 f p + 2 + keyLen bs f p
def oldLen (bs : List UInt8) (f : Int) (p : Nat) : Nat := be bs (q6 bs f p) 4
def tailW (bs : List UInt8) (f o : Int) (p : Nat) : Nat := if o = 4 then 4 + oldLen bs f p else if o = 5 then 4 else if o = 8 then 8 else if o = 9 then 8 else if o = 10 then 16 else 0
def q7 (bs : List UInt8) (f o : Int) (p : Nat) : Nat := q6 bs f p + tailW bs f o p
def keyS (bs : List UInt8) (f : Int) (p : Nat) : ByteArray := ⟨((bs.drop (q4 f p + 2)).take (keyLen bs f p)).toArray⟩

/-- What 'take' hands back, as a string. -/
theorem took_string {w : World} {g : Nat} {bs : List UInt8} {P K : Nat} {v : Value} (h : Took g bs P K v) (hb : Bs w g bs) :
    ∃ s : ByteArray, (convert 22 9 v).run Tryf.prog w = .ok (.string s) w ∧ (P + K ≤ bs.length → s = ⟨((bs.drop P).take K).toArray⟩) := by
  by_cases hov : P + K ≤ bs.length
  · obtain ⟨q, rfl, hq⟩ := h.1 hov
    refine ⟨⟨((bs.drop P).take K).toArray⟩, ?_, fun _ => rfl⟩
    have hl : ((bs.drop P).take K).length = K := by simp; omega
    have := run_convert_bytes_back (P := Tryf.prog) w 22 9 5 ⟨g, q, none⟩ K ((bs.drop P).take K) Tryf.underlying22 Tryf.underlying5 Tryf.underlying9 (fun j hj => by
      rw [hl] at hj
      obtain rfl := hq (by omega)
      have h1 := hb (q + j) (by omega)
      rw [WideShapes.add_plain, h1]
      simp)
    rwa [hl] at this
  · have hv := h.2 (by omega)
    subst hv
    exact ⟨_, run_convert_bytes_nil (P := Tryf.prog) w 22 5 Tryf.underlying22 Tryf.underlying5 0 0 9 Tryf.underlying9, fun h => absurd h hov⟩
end Go.Proofs.Qxb6614561aFmt
