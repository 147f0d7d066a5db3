/-
  THE WALK of FnDecodeMatchesLayout: the end, where both readings are at hand.
-/
import Derived.Test.Qxb6614561aFmtSame
namespace Go.Proofs.Qxb6614561aFmt
open Go Go.RowKit Go.Extern.Stop Go.Stop Go.Extern
set_option linter.unusedVariables false

theorem cell_alloc2 {w : World} {g : Nat} (hg : g < w.heap.size) (o1 o2 : Obj) (q : Nat) : ((w.alloc o1).alloc o2).cell? ⟨g, q, none⟩ = w.cell? ⟨g, q, none⟩ :=
  (((Below.refl w.heap.size w).alloc (Nat.le_refl _) o1).alloc (by simp) o2).cell (p := ⟨g, q, none⟩) hg

set_option maxHeartbeats 4000000 in
set_option maxRecDepth 100000 in
theorem tail_bad (w wx : World) (Cw Cg : Nat) (a0 a1 a3 u8 u9 u10 u11 u12 u13 u14 u15 u16 u17 u18 u19 u20 u21 u22 u23 u24 u25 u26 u27 u28 u29 u30 u31 u32 u33 u34 u35 u36 u37 u38 u39 u40 u41 u42 u43 u44 u45 u46 u47 u48 u49 u50 u51 u52 u53 : Value) (ra : Option Addr) (hCg : Cmd wx Cg zeroA) (hB : Below w.heap.size w wx) :
    Code.wp Tryf.prog (dropS 7 (Tryf.f3.body.getD .skip)) (bodyPost Tryf.prog Tryf.f3 fun e w' => e = .returned (.bool true) ∧ Below w.heap.size w w') ⟨#[a0, a1, .bool false, a3, .bool false, .pointer (some ⟨Cw, 0, none⟩), .pointer (some ⟨Cg, 0, none⟩), .iface 57 (.pointer ra), u8, u9, u10, u11, u12, u13, u14, u15, u16, u17, u18, u19, u20, u21, u22, u23, u24, u25, u26, u27, u28, u29, u30, u31, u32, u33, u34, u35, u36, u37, u38, u39, u40, u41, u42, u43, u44, u45, u46, u47, u48, u49, u50, u51, u52, u53], []⟩ wx := by
  conv => arg 2; whnf
  have HB : Hid (Below w.heap.size w wx) := hB
  clear hB
  have k0 := hCg.cell 0
  have k1 := hCg.cell 1
  have k2 := hCg.cell 2
  have k3 := hCg.cell 3
  have k4 := hCg.cell 4
  have k5 := hCg.cell 5
  have k6 := hCg.cell 6
  have k7 := hCg.cell 7
  have k8 := hCg.cell 8
  have k9 := hCg.cell 9
  have k10 := hCg.cell 10
  have k11 := hCg.cell 11
  have k12 := hCg.cell 12
  have k13 := hCg.cell 13
  have k14 := hCg.cell 14
  have k15 := hCg.cell 15
  simp only [List.getElem?_toArray, List.getElem?_cons_zero, List.getElem?_cons_succ] at k0 k1 k2 k3 k4 k5 k6 k7 k8 k9 k10 k11 k12 k13 k14 k15
  go_wp2_with fail
  refine (zero_any wx).mono ?_
  rintro e w' ⟨rfl, hb⟩
  go_wp2_with fail
  go_ret
  exact ⟨rfl, HB.out.trans (hb.mono HB.out.size)⟩

set_option maxHeartbeats 4000000 in
set_option maxRecDepth 100000 in
theorem tail_nil (w wx : World) (Cw Cg : Nat) (a0 a1 a3 u8 u9 u10 u11 u12 u13 u14 u15 u16 u17 u18 u19 u20 u21 u22 u23 u24 u25 u26 u27 u28 u29 u30 u31 u32 u33 u34 u35 u36 u37 u38 u39 u40 u41 u42 u43 u44 u45 u46 u47 u48 u49 u50 u51 u52 u53 : Value) (o : Int) (key : ByteArray) (s0 s1 s2 s3 le ttl : Int) (co : Bool) (rev ol fo fr cl : Int) (g1 g2 x1 x2 L c1 c2 : Nat) (l : List UInt8) (hl : l.length = L) (hL : L ≤ 1048576)
    (ha : ∀ j (h : j < l.length), wx.cell? ⟨g1, x1 + j, none⟩ = some (.int .u8 (l[j].toNat : Int))) (hb : ∀ j (h : j < l.length), wx.cell? ⟨g2, x2 + j, none⟩ = some (.int .u8 (l[j].toNat : Int))) (hg1 : g1 < wx.heap.size) (hg2 : g2 < wx.heap.size) (hCw' : Cw < wx.heap.size) (hCg' : Cg < wx.heap.size)
    
    (hCw : Cmd wx Cw (cmdA (.int .u8 o) (.string key) (.slice (some ⟨g2, x2, none⟩) L c2) (.slice none 0 0) (.int .u64 s0) (.int .u64 s1) (.int .i64 s2) (.int .i64 s3) (.int .u64 le) (.int .i64 ttl) (.bool co) (.int .u64 rev) (.int .u64 ol) (.int .u64 fo) (.int .u64 fr) (.int .i64 cl))) (hCg : Cmd wx Cg (cmdA (.int .u8 o) (.string key) (.slice (some ⟨g1, x1, none⟩) L c1) (.slice none 0 0) (.int .u64 s0) (.int .u64 s1) (.int .i64 s2) (.int .i64 s3) (.int .u64 le) (.int .i64 ttl) (.bool co) (.int .u64 rev) (.int .u64 ol) (.int .u64 fo) (.int .u64 fr) (.int .i64 cl))) (hB : Below w.heap.size w wx) :
    Code.wp Tryf.prog (dropS 7 (Tryf.f3.body.getD .skip)) (bodyPost Tryf.prog Tryf.f3 fun e w' => e = .returned (.bool true) ∧ Below w.heap.size w w') ⟨#[a0, a1, .bool false, a3, .bool true, .pointer (some ⟨Cw, 0, none⟩), .pointer (some ⟨Cg, 0, none⟩), .nilIface, u8, u9, u10, u11, u12, u13, u14, u15, u16, u17, u18, u19, u20, u21, u22, u23, u24, u25, u26, u27, u28, u29, u30, u31, u32, u33, u34, u35, u36, u37, u38, u39, u40, u41, u42, u43, u44, u45, u46, u47, u48, u49, u50, u51, u52, u53], []⟩ wx := by
  conv => arg 2; whnf
  have HB : Hid (Below w.heap.size w wx) := hB
  have Ha : Hid (∀ j (h : j < l.length), wx.cell? ⟨g1, x1 + j, none⟩ = some (.int .u8 (l[j].toNat : Int))) := ha
  have Hb : Hid (∀ j (h : j < l.length), wx.cell? ⟨g2, x2 + j, none⟩ = some (.int .u8 (l[j].toNat : Int))) := hb
  have Hl : Hid (l.length = L) := hl
  have hsame := same_nil o key (some ⟨g1, x1, none⟩) (some ⟨g2, x2, none⟩) L c1 L c2 s0 s1 s2 s3 le ttl co rev ol fo fr cl wx
  clear hB ha hb hl
  have k0 := hCg.cell 0
  have k1 := hCg.cell 1
  have k2 := hCg.cell 2
  have k3 := hCg.cell 3
  have k4 := hCg.cell 4
  have k5 := hCg.cell 5
  have k6 := hCg.cell 6
  have k7 := hCg.cell 7
  have k8 := hCg.cell 8
  have k9 := hCg.cell 9
  have k10 := hCg.cell 10
  have k11 := hCg.cell 11
  have k12 := hCg.cell 12
  have k13 := hCg.cell 13
  have k14 := hCg.cell 14
  have k15 := hCg.cell 15
  simp only [List.getElem?_toArray, List.getElem?_cons_zero, List.getElem?_cons_succ] at k0 k1 k2 k3 k4 k5 k6 k7 k8 k9 k10 k11 k12 k13 k14 k15
  have m0 := hCw.cell 0
  have m1 := hCw.cell 1
  have m2 := hCw.cell 2
  have m3 := hCw.cell 3
  have m4 := hCw.cell 4
  have m5 := hCw.cell 5
  have m6 := hCw.cell 6
  have m7 := hCw.cell 7
  have m8 := hCw.cell 8
  have m9 := hCw.cell 9
  have m10 := hCw.cell 10
  have m11 := hCw.cell 11
  have m12 := hCw.cell 12
  have m13 := hCw.cell 13
  have m14 := hCw.cell 14
  have m15 := hCw.cell 15
  simp only [List.getElem?_toArray, List.getElem?_cons_zero, List.getElem?_cons_succ] at m0 m1 m2 m3 m4 m5 m6 m7 m8 m9 m10 m11 m12 m13 m14 m15
  go_wp2_with fail
  refine hsame.mono ?_
  rintro e w' ⟨rfl, hb⟩
  clear k0 m0 k1 m1 k2 m2 k3 m3 k4 m4 k5 m5 k6 m6 k7 m7 k8 m8 k9 m9 k10 m10 k11 m11 k12 m12 k13 m13 k14 m14 k15 m15
  have k1 := (hCg.below hb hCg').cell 2
  have k2 := (hCw.below hb hCw').cell 2
  simp only [List.getElem?_toArray, List.getElem?_cons_zero, List.getElem?_cons_succ] at k1 k2
  have HB' : Hid (Below w.heap.size w w') := HB.out.trans (hb.mono HB.out.size)
  have Ha' : Hid (∀ j (h : j < l.length), w'.cell? ⟨g1, x1 + j, none⟩ = some (.int .u8 (l[j].toNat : Int))) := fun j h => by
    rw [hb.cell (p := ⟨g1, x1 + j, none⟩) hg1]; exact Ha.out j h
  have Hb' : Hid (∀ j (h : j < l.length), w'.cell? ⟨g2, x2 + j, none⟩ = some (.int .u8 (l[j].toNat : Int))) := fun j h => by
    rw [hb.cell (p := ⟨g2, x2 + j, none⟩) hg2]; exact Hb.out j h
  have hq := fun w => Lib.run_eql_slice_nil (P := Tryf.prog) w 22 5 (some ⟨g1, x1, none⟩) L c1 0 0 Tryf.underlying22
  clear hsame hCw hCg hb
  go_wp2_with fail
  refine (bytesEq_any g1 x1 c1 g2 x2 c2 L l _ Hl.out hL Ha'.out Hb'.out).mono ?_
  rintro e w2 ⟨rfl, hb2⟩
  go_wp2_with fail
  go_ret
  exact ⟨rfl, HB'.out.trans (hb2.mono HB'.out.size)⟩

set_option maxHeartbeats 4000000 in
set_option maxRecDepth 100000 in
theorem tail_sl (w wx : World) (Cw Cg : Nat) (a0 a1 a3 u8 u9 u10 u11 u12 u13 u14 u15 u16 u17 u18 u19 u20 u21 u22 u23 u24 u25 u26 u27 u28 u29 u30 u31 u32 u33 u34 u35 u36 u37 u38 u39 u40 u41 u42 u43 u44 u45 u46 u47 u48 u49 u50 u51 u52 u53 : Value) (o : Int) (key : ByteArray) (s0 s1 s2 s3 le ttl : Int) (co : Bool) (rev ol fo fr cl : Int) (g1 g2 x1 x2 L c1 c2 : Nat) (l : List UInt8) (hl : l.length = L) (hL : L ≤ 1048576)
    (ha : ∀ j (h : j < l.length), wx.cell? ⟨g1, x1 + j, none⟩ = some (.int .u8 (l[j].toNat : Int))) (hb : ∀ j (h : j < l.length), wx.cell? ⟨g2, x2 + j, none⟩ = some (.int .u8 (l[j].toNat : Int))) (hg1 : g1 < wx.heap.size) (hg2 : g2 < wx.heap.size) (hCw' : Cw < wx.heap.size) (hCg' : Cg < wx.heap.size)
    (y1 y2 M d1 d2 : Nat) (m : List UInt8) (hm : m.length = M) (hM : M ≤ 1048576) (hma : ∀ j (h : j < m.length), wx.cell? ⟨g1, y1 + j, none⟩ = some (.int .u8 (m[j].toNat : Int))) (hmb : ∀ j (h : j < m.length), wx.cell? ⟨g2, y2 + j, none⟩ = some (.int .u8 (m[j].toNat : Int)))
    (hCw : Cmd wx Cw (cmdA (.int .u8 o) (.string key) (.slice (some ⟨g2, x2, none⟩) L c2) (.slice (some ⟨g2, y2, none⟩) M d2) (.int .u64 s0) (.int .u64 s1) (.int .i64 s2) (.int .i64 s3) (.int .u64 le) (.int .i64 ttl) (.bool co) (.int .u64 rev) (.int .u64 ol) (.int .u64 fo) (.int .u64 fr) (.int .i64 cl))) (hCg : Cmd wx Cg (cmdA (.int .u8 o) (.string key) (.slice (some ⟨g1, x1, none⟩) L c1) (.slice (some ⟨g1, y1, none⟩) M d1) (.int .u64 s0) (.int .u64 s1) (.int .i64 s2) (.int .i64 s3) (.int .u64 le) (.int .i64 ttl) (.bool co) (.int .u64 rev) (.int .u64 ol) (.int .u64 fo) (.int .u64 fr) (.int .i64 cl))) (hB : Below w.heap.size w wx) :
    Code.wp Tryf.prog (dropS 7 (Tryf.f3.body.getD .skip)) (bodyPost Tryf.prog Tryf.f3 fun e w' => e = .returned (.bool true) ∧ Below w.heap.size w w') ⟨#[a0, a1, .bool false, a3, .bool true, .pointer (some ⟨Cw, 0, none⟩), .pointer (some ⟨Cg, 0, none⟩), .nilIface, u8, u9, u10, u11, u12, u13, u14, u15, u16, u17, u18, u19, u20, u21, u22, u23, u24, u25, u26, u27, u28, u29, u30, u31, u32, u33, u34, u35, u36, u37, u38, u39, u40, u41, u42, u43, u44, u45, u46, u47, u48, u49, u50, u51, u52, u53], []⟩ wx := by
  conv => arg 2; whnf
  have HB : Hid (Below w.heap.size w wx) := hB
  have Ha : Hid (∀ j (h : j < l.length), wx.cell? ⟨g1, x1 + j, none⟩ = some (.int .u8 (l[j].toNat : Int))) := ha
  have Hb : Hid (∀ j (h : j < l.length), wx.cell? ⟨g2, x2 + j, none⟩ = some (.int .u8 (l[j].toNat : Int))) := hb
  have Hl : Hid (l.length = L) := hl
  have hsame := same_sl o key (some ⟨g1, x1, none⟩) (some ⟨g2, x2, none⟩) L c1 L c2 s0 s1 s2 s3 le ttl co rev ol fo fr cl wx g1 g2 y1 y2 M d1 d2 m hm hM (fun o1 o2 j h => (cell_alloc2 hg1 o1 o2 _).trans (hma j h)) (fun o1 o2 j h => (cell_alloc2 hg2 o1 o2 _).trans (hmb j h))
  clear hB ha hb hl hma hmb hm
  have k0 := hCg.cell 0
  have k1 := hCg.cell 1
  have k2 := hCg.cell 2
  have k3 := hCg.cell 3
  have k4 := hCg.cell 4
  have k5 := hCg.cell 5
  have k6 := hCg.cell 6
  have k7 := hCg.cell 7
  have k8 := hCg.cell 8
  have k9 := hCg.cell 9
  have k10 := hCg.cell 10
  have k11 := hCg.cell 11
  have k12 := hCg.cell 12
  have k13 := hCg.cell 13
  have k14 := hCg.cell 14
  have k15 := hCg.cell 15
  simp only [List.getElem?_toArray, List.getElem?_cons_zero, List.getElem?_cons_succ] at k0 k1 k2 k3 k4 k5 k6 k7 k8 k9 k10 k11 k12 k13 k14 k15
  have m0 := hCw.cell 0
  have m1 := hCw.cell 1
  have m2 := hCw.cell 2
  have m3 := hCw.cell 3
  have m4 := hCw.cell 4
  have m5 := hCw.cell 5
  have m6 := hCw.cell 6
  have m7 := hCw.cell 7
  have m8 := hCw.cell 8
  have m9 := hCw.cell 9
  have m10 := hCw.cell 10
  have m11 := hCw.cell 11
  have m12 := hCw.cell 12
  have m13 := hCw.cell 13
  have m14 := hCw.cell 14
  have m15 := hCw.cell 15
  simp only [List.getElem?_toArray, List.getElem?_cons_zero, List.getElem?_cons_succ] at m0 m1 m2 m3 m4 m5 m6 m7 m8 m9 m10 m11 m12 m13 m14 m15
  go_wp2_with fail
  refine hsame.mono ?_
  rintro e w' ⟨rfl, hb⟩
  clear k0 m0 k1 m1 k2 m2 k3 m3 k4 m4 k5 m5 k6 m6 k7 m7 k8 m8 k9 m9 k10 m10 k11 m11 k12 m12 k13 m13 k14 m14 k15 m15
  have k1 := (hCg.below hb hCg').cell 2
  have k2 := (hCw.below hb hCw').cell 2
  simp only [List.getElem?_toArray, List.getElem?_cons_zero, List.getElem?_cons_succ] at k1 k2
  have HB' : Hid (Below w.heap.size w w') := HB.out.trans (hb.mono HB.out.size)
  have Ha' : Hid (∀ j (h : j < l.length), w'.cell? ⟨g1, x1 + j, none⟩ = some (.int .u8 (l[j].toNat : Int))) := fun j h => by
    rw [hb.cell (p := ⟨g1, x1 + j, none⟩) hg1]; exact Ha.out j h
  have Hb' : Hid (∀ j (h : j < l.length), w'.cell? ⟨g2, x2 + j, none⟩ = some (.int .u8 (l[j].toNat : Int))) := fun j h => by
    rw [hb.cell (p := ⟨g2, x2 + j, none⟩) hg2]; exact Hb.out j h
  have hq := fun w => Lib.run_eql_slice_nil (P := Tryf.prog) w 22 5 (some ⟨g1, x1, none⟩) L c1 0 0 Tryf.underlying22
  clear hsame hCw hCg hb
  go_wp2_with fail
  refine (bytesEq_any g1 x1 c1 g2 x2 c2 L l _ Hl.out hL Ha'.out Hb'.out).mono ?_
  rintro e w2 ⟨rfl, hb2⟩
  go_wp2_with fail
  go_ret
  exact ⟨rfl, HB'.out.trans (hb2.mono HB'.out.size)⟩

end Go.Proofs.Qxb6614561aFmt
