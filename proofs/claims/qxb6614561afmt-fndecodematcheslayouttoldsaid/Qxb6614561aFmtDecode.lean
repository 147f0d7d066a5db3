/-
  THE WALK of Decode.
-/
import Derived.Test.Qxb6614561aFmtInto
namespace Go.Proofs.Qxb6614561aFmt
open Go Go.RowKit Go.Extern.Stop Go.Stop Go.Extern

/-- A command's cells have a command's forms. -/
def Sh (arr : Array Value) : Prop := ∃ (o : Int) (key : ByteArray) (v1 : Option Addr) (v2 v3 : Nat) (o1 : Option Addr) (o2 o3 : Nat) (s0 s1 s2 s3 le ttl : Int) (co : Bool) (rev ol fo fr cl : Int),
  arr = cmdA (.int .u8 o) (.string key) (.slice v1 v2 v3) (.slice o1 o2 o3) (.int .u64 s0) (.int .u64 s1) (.int .i64 s2) (.int .i64 s3) (.int .u64 le) (.int .i64 ttl) (.bool co) (.int .u64 rev) (.int .u64 ol) (.int .u64 fo) (.int .u64 fr) (.int .i64 cl)

theorem Sh.zero : Sh zeroA := ⟨0, ⟨#[]⟩, none, 0, 0, none, 0, 0, 0, 0, 0, 0, 0, 0, false, 0, 0, 0, 0, 0, rfl⟩
theorem Fin.sh {g : Nat} {bs : List UInt8} {f o : Int} {p : Nat} {arr : Array Value} (h : Fin g bs f o p arr) : Sh arr := by
  obtain ⟨val, old, rfl, ⟨q, c, rfl, _⟩, ⟨_, q', c', rfl, _⟩ | ⟨_, rfl⟩⟩ := h
  · exact ⟨_, _, _, _, _, _, _, _, _, _, _, _, _, _, _, _, _, _, _, _, rfl⟩
  · exact ⟨_, _, _, _, _, _, _, _, _, _, _, _, _, _, _, _, _, _, _, _, rfl⟩

/-- What Decode answers: the error and the zero command where the layout does not fit; else the command as the layout places it. -/
def DecRes (g : Nat) (bs : List UInt8) (arr : Array Value) (err : Value) : Prop :=
  ∃ (f o : Int) (p : Nat), HeadRel bs f o p ∧ ((IsErr err ∧ arr = zeroA ∧ Bad bs f o p) ∨ (err = .nilIface ∧ ¬ Bad bs f o p ∧ Fin g bs f o p arr))

theorem into_res {w w' : World} {C g : Nat} {bs : List UInt8} {e : Ending} (h : IntoEnd w C g bs e w') :
    Below C w w' ∧ C < w'.heap.size ∧ ∃ arr r, e = .returned r ∧ (r = .nilIface ∨ ∃ a, r = .iface 57 (.pointer a)) ∧ Cmd w' C arr ∧ Sh arr ∧ DecRes g bs arr r := by
  obtain ⟨f, o, p, hh, hb, hlt, ⟨r, rfl, hr, hc, hbad⟩ | ⟨arr, rfl, hok, hc, hf⟩⟩ := h
  · exact ⟨hb, hlt, zeroA, r, rfl, .inr hr, hc, Sh.zero, f, o, p, hh, .inl ⟨hr, rfl, hbad⟩⟩
  · exact ⟨hb, hlt, arr, .nilIface, rfl, .inl rfl, hc, hf.sh, f, o, p, hh, .inr ⟨rfl, hok, hf⟩⟩

abbrev ZO : Obj := .cells zeroA 30

theorem size2z (w : World) : ((w.alloc ZO).alloc ZO).heap.size = w.heap.size + 2 := by simp
theorem cmd2z (w : World) : Cmd ((w.alloc ZO).alloc ZO) (w.heap.size + 1) zeroA := by
  have := (MapKept.heap_alloc (w.alloc ZO) ZO).1
  rw [show (w.alloc ZO).heap.size = w.heap.size + 1 by simp] at this
  exact this
theorem cmd1z (w : World) : Cmd ((w.alloc ZO).alloc ZO) w.heap.size zeroA :=
  (Below.heap_alloc (w.alloc ZO) ZO w.heap.size (by simp)).trans (MapKept.heap_alloc w ZO).1

/-- Sixteen stores, one behind the other. -/
theorem cmd_set16 {w0 wx : World} {C : Nat} {a0 a1 a2 a3 a4 a5 a6 a7 a8 a9 a10 a11 a12 a13 a14 a15 : Value} (h : Cmd wx C (cmdA a0 a1 a2 a3 a4 a5 a6 a7 a8 a9 a10 a11 a12 a13 a14 a15)) (hb : Below C w0 wx) (b0 b1 b2 b3 b4 b5 b6 b7 b8 b9 b10 b11 b12 b13 b14 b15 : Value) :
    Cmd ((((((((((((((((wx.setCell ⟨C, 0, none⟩ b0).setCell ⟨C, 1, none⟩ b1).setCell ⟨C, 2, none⟩ b2).setCell ⟨C, 3, none⟩ b3).setCell ⟨C, 4, none⟩ b4).setCell ⟨C, 5, none⟩ b5).setCell ⟨C, 6, none⟩ b6).setCell ⟨C, 7, none⟩ b7).setCell ⟨C, 8, none⟩ b8).setCell ⟨C, 9, none⟩ b9).setCell ⟨C, 10, none⟩ b10).setCell ⟨C, 11, none⟩ b11).setCell ⟨C, 12, none⟩ b12).setCell ⟨C, 13, none⟩ b13).setCell ⟨C, 14, none⟩ b14).setCell ⟨C, 15, none⟩ b15) C (cmdA b0 b1 b2 b3 b4 b5 b6 b7 b8 b9 b10 b11 b12 b13 b14 b15) ∧ Below C w0 ((((((((((((((((wx.setCell ⟨C, 0, none⟩ b0).setCell ⟨C, 1, none⟩ b1).setCell ⟨C, 2, none⟩ b2).setCell ⟨C, 3, none⟩ b3).setCell ⟨C, 4, none⟩ b4).setCell ⟨C, 5, none⟩ b5).setCell ⟨C, 6, none⟩ b6).setCell ⟨C, 7, none⟩ b7).setCell ⟨C, 8, none⟩ b8).setCell ⟨C, 9, none⟩ b9).setCell ⟨C, 10, none⟩ b10).setCell ⟨C, 11, none⟩ b11).setCell ⟨C, 12, none⟩ b12).setCell ⟨C, 13, none⟩ b13).setCell ⟨C, 14, none⟩ b14).setCell ⟨C, 15, none⟩ b15) := by
  have h0 : Cmd _ C (cmdA b0 a1 a2 a3 a4 a5 a6 a7 a8 a9 a10 a11 a12 a13 a14 a15) := h.set 0 b0
  have g0 : Below C w0 _ := hb.setCell (p := ⟨C, 0, none⟩) (Nat.le_refl _) b0
  have h1 : Cmd _ C (cmdA b0 b1 a2 a3 a4 a5 a6 a7 a8 a9 a10 a11 a12 a13 a14 a15) := h0.set 1 b1
  have g1 : Below C w0 _ := g0.setCell (p := ⟨C, 1, none⟩) (Nat.le_refl _) b1
  have h2 : Cmd _ C (cmdA b0 b1 b2 a3 a4 a5 a6 a7 a8 a9 a10 a11 a12 a13 a14 a15) := h1.set 2 b2
  have g2 : Below C w0 _ := g1.setCell (p := ⟨C, 2, none⟩) (Nat.le_refl _) b2
  have h3 : Cmd _ C (cmdA b0 b1 b2 b3 a4 a5 a6 a7 a8 a9 a10 a11 a12 a13 a14 a15) := h2.set 3 b3
  have g3 : Below C w0 _ := g2.setCell (p := ⟨C, 3, none⟩) (Nat.le_refl _) b3
  have h4 : Cmd _ C (cmdA b0 b1 b2 b3 b4 a5 a6 a7 a8 a9 a10 a11 a12 a13 a14 a15) := h3.set 4 b4
  have g4 : Below C w0 _ := g3.setCell (p := ⟨C, 4, none⟩) (Nat.le_refl _) b4
  have h5 : Cmd _ C (cmdA b0 b1 b2 b3 b4 b5 a6 a7 a8 a9 a10 a11 a12 a13 a14 a15) := h4.set 5 b5
  have g5 : Below C w0 _ := g4.setCell (p := ⟨C, 5, none⟩) (Nat.le_refl _) b5
  have h6 : Cmd _ C (cmdA b0 b1 b2 b3 b4 b5 b6 a7 a8 a9 a10 a11 a12 a13 a14 a15) := h5.set 6 b6
  have g6 : Below C w0 _ := g5.setCell (p := ⟨C, 6, none⟩) (Nat.le_refl _) b6
  have h7 : Cmd _ C (cmdA b0 b1 b2 b3 b4 b5 b6 b7 a8 a9 a10 a11 a12 a13 a14 a15) := h6.set 7 b7
  have g7 : Below C w0 _ := g6.setCell (p := ⟨C, 7, none⟩) (Nat.le_refl _) b7
  have h8 : Cmd _ C (cmdA b0 b1 b2 b3 b4 b5 b6 b7 b8 a9 a10 a11 a12 a13 a14 a15) := h7.set 8 b8
  have g8 : Below C w0 _ := g7.setCell (p := ⟨C, 8, none⟩) (Nat.le_refl _) b8
  have h9 : Cmd _ C (cmdA b0 b1 b2 b3 b4 b5 b6 b7 b8 b9 a10 a11 a12 a13 a14 a15) := h8.set 9 b9
  have g9 : Below C w0 _ := g8.setCell (p := ⟨C, 9, none⟩) (Nat.le_refl _) b9
  have h10 : Cmd _ C (cmdA b0 b1 b2 b3 b4 b5 b6 b7 b8 b9 b10 a11 a12 a13 a14 a15) := h9.set 10 b10
  have g10 : Below C w0 _ := g9.setCell (p := ⟨C, 10, none⟩) (Nat.le_refl _) b10
  have h11 : Cmd _ C (cmdA b0 b1 b2 b3 b4 b5 b6 b7 b8 b9 b10 b11 a12 a13 a14 a15) := h10.set 11 b11
  have g11 : Below C w0 _ := g10.setCell (p := ⟨C, 11, none⟩) (Nat.le_refl _) b11
  have h12 : Cmd _ C (cmdA b0 b1 b2 b3 b4 b5 b6 b7 b8 b9 b10 b11 b12 a13 a14 a15) := h11.set 12 b12
  have g12 : Below C w0 _ := g11.setCell (p := ⟨C, 12, none⟩) (Nat.le_refl _) b12
  have h13 : Cmd _ C (cmdA b0 b1 b2 b3 b4 b5 b6 b7 b8 b9 b10 b11 b12 b13 a14 a15) := h12.set 13 b13
  have g13 : Below C w0 _ := g12.setCell (p := ⟨C, 13, none⟩) (Nat.le_refl _) b13
  have h14 : Cmd _ C (cmdA b0 b1 b2 b3 b4 b5 b6 b7 b8 b9 b10 b11 b12 b13 b14 a15) := h13.set 14 b14
  have g14 : Below C w0 _ := g13.setCell (p := ⟨C, 14, none⟩) (Nat.le_refl _) b14
  have h15 : Cmd _ C (cmdA b0 b1 b2 b3 b4 b5 b6 b7 b8 b9 b10 b11 b12 b13 b14 b15) := h14.set 15 b15
  have g15 : Below C w0 _ := g14.setCell (p := ⟨C, 15, none⟩) (Nat.le_refl _) b15
  exact ⟨h15, g15⟩

set_option maxHeartbeats 4000000 in
set_option maxRecDepth 100000 in
theorem decode_any (F : Interp) (g n : Nat) (bs : List UInt8) (hn : bs.length = n) (hmax : n ≤ 1048576) (ao : Option Addr) (w : World) (hF : F.answers w.tape) (hg : g < w.heap.size)
    (hbs : Bs w g bs) (hao : ao = some ⟨g, 0, none⟩ ∨ (ao = none ∧ bs = [])) :
    Calls Tryf.prog 7 #[.slice ao n n] w fun e w' => ∃ arr r, e = .returned (.tuple #[.agg arr, r]) ∧ (r = .nilIface ∨ ∃ a, r = .iface 57 (.pointer a)) ∧ Sh arr ∧ DecRes g bs arr r ∧ Below w.heap.size w w' := by
  have hb2 : Below w.heap.size w ((w.alloc ZO).alloc ZO) := ((Below.refl _ _).alloc (Nat.le_refl _) _).alloc (by simp) _
  have hinto := into_any F (w.heap.size + 1) g n bs hn hmax ao ((w.alloc ZO).alloc ZO) hF (by omega) (by rw [size2z]; omega) (hbs.below hb2 hg) hao (cmd2z w)
  have H2 : Hid (Below w.heap.size w ((w.alloc ZO).alloc ZO)) := hb2
  have c1 : Hid (Cmd ((w.alloc ZO).alloc ZO) w.heap.size zeroA) := cmd1z w
  clear hb2 hbs hao hF
  go_enter Tryf.func7, Tryf.ntmps7
  go_wp2_with fail
  refine hinto.mono ?_
  rintro e w1 hend
  obtain ⟨hb, hlt, arr, r, rfl, hr, hc, hsh, hres⟩ := into_res hend
  have hc1 : Cmd w1 w.heap.size zeroA := c1.out.below hb (by omega)
  have HB : Hid (Below w.heap.size w w1) := H2.out.trans (hb.mono (by omega))
  have HRes : Hid (DecRes g bs arr r) := hres
  clear hend hb hinto c1 H2 hres
  obtain ⟨o, key, v1, v2, v3, o1, o2, o3, s0, s1, s2, s3, le, ttl, co, rev, ol, fo, fr, cl, rfl⟩ := hsh
  have k0 := hc.cell 0; have k1 := hc.cell 1; have k2 := hc.cell 2; have k3 := hc.cell 3
  have k4 := hc.cell 4; have k5 := hc.cell 5; have k6 := hc.cell 6; have k7 := hc.cell 7
  have k8 := hc.cell 8; have k9 := hc.cell 9; have k10 := hc.cell 10; have k11 := hc.cell 11
  have k12 := hc.cell 12; have k13 := hc.cell 13; have k14 := hc.cell 14; have k15 := hc.cell 15
  have m0 := hc1.cell 0; have m1 := hc1.cell 1; have m2 := hc1.cell 2; have m3 := hc1.cell 3
  have m4 := hc1.cell 4; have m5 := hc1.cell 5; have m6 := hc1.cell 6; have m7 := hc1.cell 7
  have m8 := hc1.cell 8; have m9 := hc1.cell 9; have m10 := hc1.cell 10; have m11 := hc1.cell 11
  have m12 := hc1.cell 12; have m13 := hc1.cell 13; have m14 := hc1.cell 14; have m15 := hc1.cell 15
  have fz := hc1.frozen
  simp only [List.getElem?_toArray, List.getElem?_cons_zero, List.getElem?_cons_succ] at k0 k1 k2 k3 k4 k5 k6 k7 k8 k9 k10 k11 k12 k13 k14 k15 m0 m1 m2 m3 m4 m5 m6 m7 m8 m9 m10 m11 m12 m13 m14 m15
  go_wp2
  obtain ⟨hcx, hbx⟩ := cmd_set16 hc1 HB.out (.int .u8 o) (.string key) (.slice v1 v2 v3) (.slice o1 o2 o3) (.int .u64 s0) (.int .u64 s1) (.int .i64 s2) (.int .i64 s3) (.int .u64 le) (.int .i64 ttl) (.bool co) (.int .u64 rev) (.int .u64 ol) (.int .u64 fo) (.int .u64 fr) (.int .i64 cl)
  generalize ((((((((((((((((w1.setCell ⟨w.heap.size, 0, none⟩ (.int .u8 o)).setCell ⟨w.heap.size, 1, none⟩ (.string key)).setCell ⟨w.heap.size, 2, none⟩ (.slice v1 v2 v3)).setCell ⟨w.heap.size, 3, none⟩ (.slice o1 o2 o3)).setCell ⟨w.heap.size, 4, none⟩ (.int .u64 s0)).setCell ⟨w.heap.size, 5, none⟩ (.int .u64 s1)).setCell ⟨w.heap.size, 6, none⟩ (.int .i64 s2)).setCell ⟨w.heap.size, 7, none⟩ (.int .i64 s3)).setCell ⟨w.heap.size, 8, none⟩ (.int .u64 le)).setCell ⟨w.heap.size, 9, none⟩ (.int .i64 ttl)).setCell ⟨w.heap.size, 10, none⟩ (.bool co)).setCell ⟨w.heap.size, 11, none⟩ (.int .u64 rev)).setCell ⟨w.heap.size, 12, none⟩ (.int .u64 ol)).setCell ⟨w.heap.size, 13, none⟩ (.int .u64 fo)).setCell ⟨w.heap.size, 14, none⟩ (.int .u64 fr)).setCell ⟨w.heap.size, 15, none⟩ (.int .i64 cl)) = W16 at hcx hbx ⊢
  clear k0 k1 k2 k3 k4 k5 k6 k7 k8 k9 k10 k11 k12 k13 k14 k15 m0 m1 m2 m3 m4 m5 m6 m7 m8 m9 m10 m11 m12 m13 m14 m15 fz
  have j0 := hcx.cell 0
  have j1 := hcx.cell 1
  have j2 := hcx.cell 2
  have j3 := hcx.cell 3
  have j4 := hcx.cell 4
  have j5 := hcx.cell 5
  have j6 := hcx.cell 6
  have j7 := hcx.cell 7
  have j8 := hcx.cell 8
  have j9 := hcx.cell 9
  have j10 := hcx.cell 10
  have j11 := hcx.cell 11
  have j12 := hcx.cell 12
  have j13 := hcx.cell 13
  have j14 := hcx.cell 14
  have j15 := hcx.cell 15
  simp only [List.getElem?_toArray, List.getElem?_cons_zero, List.getElem?_cons_succ] at j0 j1 j2 j3 j4 j5 j6 j7 j8 j9 j10 j11 j12 j13 j14 j15
  exact bodyPost_ret (v := .tuple #[.agg (cmdA (.int .u8 o) (.string key) (.slice v1 v2 v3) (.slice o1 o2 o3) (.int .u64 s0) (.int .u64 s1) (.int .i64 s2) (.int .i64 s3) (.int .u64 le) (.int .i64 ttl) (.bool co) (.int .u64 rev) (.int .u64 ol) (.int .u64 fo) (.int .u64 fr) (.int .i64 cl)), r]) (by simp [results, Tryf.results7, go_sem, j0, j1, j2, j3, j4, j5, j6, j7, j8, j9, j10, j11, j12, j13, j14, j15]) rfl ⟨_, r, rfl, hr, ⟨_, _, _, _, _, _, _, _, _, _, _, _, _, _, _, _, _, _, _, _, rfl⟩, HRes.out, hbx⟩
end Go.Proofs.Qxb6614561aFmt
