/-
  THE REGIONS of the law's own loop.
-/
import Derived.Test.Qxb6614456aPlaces
import Derived.Deep.CutRange
import Derived.Deep.DeepCutAuto
namespace Go.Proofs.Qxb6614456a
open Go Go.RowKit Go.Sort Go.Shelf Go.Lib
set_option linter.unusedVariables false

/-- The five cells of a problem at offset o of block g. -/
structure P5 (w : World) (g o : Nat) (l c : Int) (p : ByteArray) (j : Bool) (m : ByteArray) : Prop where
  c0 : w.cell? ⟨g, o, none⟩ = some (.int .i64 l)
  c1 : w.cell? ⟨g, o + 1, none⟩ = some (.int .i64 c)
  c2 : w.cell? ⟨g, o + 2, none⟩ = some (.string p)
  c3 : w.cell? ⟨g, o + 3, none⟩ = some (.bool j)
  c4 : w.cell? ⟨g, o + 4, none⟩ = some (.string m)

theorem P5.grown {w : World} {g o : Nat} {l c : Int} {p : ByteArray} {j : Bool} {m : ByteArray} (h : P5 w g o l c p j m) (k : Nat) (os : Array Obj) : P5 (grow (w.drewN k) os) g o l c p j m := by
  have hb := World.block_lt_of_cell? w _ h.c0
  obtain ⟨h0, h1, h2, h3, h4⟩ := h
  exact ⟨cell_grown (by exact hb) h0 k os, cell_grown (by exact hb) h1 k os, cell_grown (by exact hb) h2 k os, cell_grown (by exact hb) h3 k os, cell_grown (by exact hb) h4 k os⟩
theorem P5.below {w w' : World} {g o : Nat} {l c : Int} {p : ByteArray} {j : Bool} {m : ByteArray} (h : P5 w g o l c p j m) (hb : RowKit.Below w.heap.size w w') : P5 w' g o l c p j m := by
  have hl := World.block_lt_of_cell? w _ h.c0
  obtain ⟨h0, h1, h2, h3, h4⟩ := h
  constructor
  · rw [hb.cell hl]; exact h0
  · rw [hb.cell (p := ⟨g, o + 1, none⟩) hl]; exact h1
  · rw [hb.cell (p := ⟨g, o + 2, none⟩) hl]; exact h2
  · rw [hb.cell (p := ⟨g, o + 3, none⟩) hl]; exact h3
  · rw [hb.cell (p := ⟨g, o + 4, none⟩) hl]; exact h4

/-- What the two answers are to each other. -/
structure Twin (w : World) (G1 G2 n : Nat) (L C : Nat → Int) (P1 : Nat → ByteArray) (J1 : Nat → Bool) (M1 : Nat → ByteArray) (P2 : Nat → ByteArray) (J2 : Nat → Bool) (M2 : Nat → ByteArray) : Prop where
  one : ∀ j, j < n → P5 w G1 (j * 5) (L j) (C j) (P1 j) (J1 j) (M1 j)
  two : ∀ j, j < n → P5 w G2 (j * 5) (L j) (C j) (P2 j) (J2 j) (M2 j)
  pos : ∀ j, j < n → 1 ≤ L j ∧ 1 ≤ C j
  mono : ∀ j, j + 1 < n → L j < L (j + 1) ∨ L (j + 1) = L j ∧ C j ≤ C (j + 1)
  lone : ∀ p, p < n → (p = 0 ∨ (L (p - 1) == L p && C (p - 1) == C p) = false) → (p + 1 = n ∨ (L (p + 1) == L p && C (p + 1) == C p) = false) → P2 p = P1 p ∧ J2 p = J1 p ∧ M2 p = M1 p

theorem grown_below {B : Nat} {w wr : World} (h : RowKit.Below B w wr) (hB : B ≤ wr.heap.size) (q : Nat) (os : Array Obj) : RowKit.Below B w (grow (wr.drewN q) os) :=
  h.trans ⟨rfl, rfl, rfl, by rw [size_grow]; exact Nat.le_add_right _ _, fun i hi => by
    show ((wr.drewN q).heap ++ os)[i]? = _
    rw [Array.getElem?_append_left (by show i < wr.heap.size; omega)]
    rfl⟩

/-- Copied so that the names stand in the order of the code. -/
def dropC : Nat → Code → Code
  | 0, c => c
  | k + 1, .seq _ b => dropC k b
  | _, c => c

/-- Steps into the code. -/
def sq1 : Code → Code
  | .seq a _ => a
  | c => c
def sq2 : Code → Code
  | .seq _ b => b
  | c => c
def inB : Code → Code
  | .loop c => c
  | .block _ c => c
  | c => c
attribute [local irreducible] wpQuiet

set_option maxHeartbeats 8000000 in
set_option maxRecDepth 1000000 in
theorem reg17 (w0 w : World) (HB : RowKit.Below w0.heap.size w0 w) (n G1 G2 p : Nat) (L C : Nat → Int) (P1 : Nat → ByteArray) (J1 : Nat → Bool) (M1 : Nat → ByteArray) (P2 : Nat → ByteArray) (J2 : Nat → Bool) (M2 : Nat → ByteArray) (hn2 : n ≤ 1048576) (hlt : p < n) (hT : Twin w0 G1 G2 n L C P1 J1 M1 P2 J2 M2) (u0 u1 u2 u3 u4 u5 u6 u7 u9 u11 u13 u14 u15 u16 u17 u18 u19 u20 u21 u22 u23 u24 u25 u26 u27 u28 u29 u30 u31 u32 u33 u34 u35 u36 u37 u38 u39 u40 u41 u42 u43 u44 u45 u46 u47 u48 u49 u50 u51 u52 u53 u54 u55 u56 u57 u58 u59 u60 u61 u62 u63 u64 u65 u66 u67 u68 u69 u70 u71 u72 u73 u74 u75 u76 u77 u78 u79 u80 u81 u82 u83 u84 u85 u86 u87 u88 u89 u90 u91 u92 u93 u94 u95 u96 u97 u98 u99 u100 u101 u102 u103 u104 u105 u106 u107 u108 u109 u110 u111 u112 u113 u114 u115 u116 u117 u118 u119 u120 u121 u122 u123 u124 u125 u126 u127 u128 u129 u130 u131 u132 u133 u134 u135 u136 u137 u138 u139 u140 u141 u142 u143 u144 u145 u146 u147 u148 u149 u150 u151 u152 u153 u154 u155 u156 u157 u158 u159 u160 : Value) (Q : Exit → Act → World → Prop)
    (hQ : ∀ (x73 x74 x75 x76 x77 x78 x79 x80 x81 x82 x83 x84 x85 x86 x87 x88 x89 x90 x91 x92 x93 x94 x95 x96 x97 : Value) (w' : World), RowKit.Below w0.heap.size w0 w' → Q .normal ⟨#[u0, u1, u2, u3, u4, u5, u6, u7, .slice (some ⟨G1, 0, none⟩) n n, u9, .slice (some ⟨G2, 0, none⟩) n n, u11, .int .i64 (p : Int), u13, u14, u15, u16, u17, u18, u19, u20, u21, u22, u23, u24, u25, u26, u27, u28, u29, u30, u31, u32, u33, u34, u35, u36, u37, u38, u39, u40, u41, u42, u43, u44, u45, u46, u47, u48, u49, u50, u51, u52, u53, u54, u55, u56, u57, u58, u59, u60, u61, u62, u63, u64, u65, u66, u67, u68, u69, u70, u71, u72, x73, x74, x75, x76, x77, x78, x79, x80, x81, x82, x83, x84, x85, x86, x87, x88, x89, x90, x91, x92, x93, x94, x95, x96, x97, .bool false, u99, u100, u101, u102, u103, u104, u105, u106, u107, u108, u109, u110, u111, u112, u113, u114, u115, u116, u117, u118, u119, u120, u121, u122, u123, u124, u125, u126, u127, u128, u129, u130, u131, u132, u133, u134, u135, u136, u137, u138, u139, u140, u141, u142, u143, u144, u145, u146, u147, u148, u149, u150, u151, u152, u153, u154, u155, u156, u157, u158, u159, u160], []⟩ w') :
    Code.wp Try.prog (sq1 (sq1 (sq2 (inB (sq1 (sq2 (sq2 (inB (inB (sq2 (sq1 (dropC 10 (Try.f5.body.getD .skip))))))))))))) Q ⟨#[u0, u1, u2, u3, u4, u5, u6, u7, .slice (some ⟨G1, 0, none⟩) n n, u9, .slice (some ⟨G2, 0, none⟩) n n, u11, .int .i64 (p : Int), u13, u14, u15, u16, u17, u18, u19, u20, u21, u22, u23, u24, u25, u26, u27, u28, u29, u30, u31, u32, u33, u34, u35, u36, u37, u38, u39, u40, u41, u42, u43, u44, u45, u46, u47, u48, u49, u50, u51, u52, u53, u54, u55, u56, u57, u58, u59, u60, u61, u62, u63, u64, u65, u66, u67, u68, u69, u70, u71, u72, u73, u74, u75, u76, u77, u78, u79, u80, u81, u82, u83, u84, u85, u86, u87, u88, u89, u90, u91, u92, u93, u94, u95, u96, u97, u98, u99, u100, u101, u102, u103, u104, u105, u106, u107, u108, u109, u110, u111, u112, u113, u114, u115, u116, u117, u118, u119, u120, u121, u122, u123, u124, u125, u126, u127, u128, u129, u130, u131, u132, u133, u134, u135, u136, u137, u138, u139, u140, u141, u142, u143, u144, u145, u146, u147, u148, u149, u150, u151, u152, u153, u154, u155, u156, u157, u158, u159, u160], []⟩ w := by
  have mixed : Try.prog.follows .mixedOrders = true := by kernel_rfl
  have HT : Hid (Twin w0 G1 G2 n L C P1 J1 M1 P2 J2 M2) := hT
  have HB0 : Hid (RowKit.Below w0.heap.size w0 w) := HB
  have HQ : Hid (∀ (x73 x74 x75 x76 x77 x78 x79 x80 x81 x82 x83 x84 x85 x86 x87 x88 x89 x90 x91 x92 x93 x94 x95 x96 x97 : Value) (w' : World), RowKit.Below w0.heap.size w0 w' → Q .normal ⟨#[u0, u1, u2, u3, u4, u5, u6, u7, .slice (some ⟨G1, 0, none⟩) n n, u9, .slice (some ⟨G2, 0, none⟩) n n, u11, .int .i64 (p : Int), u13, u14, u15, u16, u17, u18, u19, u20, u21, u22, u23, u24, u25, u26, u27, u28, u29, u30, u31, u32, u33, u34, u35, u36, u37, u38, u39, u40, u41, u42, u43, u44, u45, u46, u47, u48, u49, u50, u51, u52, u53, u54, u55, u56, u57, u58, u59, u60, u61, u62, u63, u64, u65, u66, u67, u68, u69, u70, u71, u72, x73, x74, x75, x76, x77, x78, x79, x80, x81, x82, x83, x84, x85, x86, x87, x88, x89, x90, x91, x92, x93, x94, x95, x96, x97, .bool false, u99, u100, u101, u102, u103, u104, u105, u106, u107, u108, u109, u110, u111, u112, u113, u114, u115, u116, u117, u118, u119, u120, u121, u122, u123, u124, u125, u126, u127, u128, u129, u130, u131, u132, u133, u134, u135, u136, u137, u138, u139, u140, u141, u142, u143, u144, u145, u146, u147, u148, u149, u150, u151, u152, u153, u154, u155, u156, u157, u158, u159, u160], []⟩ w') := hQ
  have hlt' : (p : Int) < n := by omega
  clear hQ hT HB
  conv => arg 2; whnf
  have k1 := (HT.out.one p hlt).below HB0.out
  have k2 := (HT.out.two p hlt).below HB0.out
  have hp := HT.out.pos p hlt
  have hl1 : ¬ L p < 1 := by omega
  have hc1 : ¬ C p < 1 := by omega
  have q10 := fun k os => ((k1).grown k os).c0
  have q11 := fun k os => ((k1).grown k os).c1
  have q12 := fun k os => ((k1).grown k os).c2
  have q13 := fun k os => ((k1).grown k os).c3
  have q14 := fun k os => ((k1).grown k os).c4
  have q20 := fun k os => ((k2).grown k os).c0
  have q21 := fun k os => ((k2).grown k os).c1
  have q22 := fun k os => ((k2).grown k os).c2
  have q23 := fun k os => ((k2).grown k os).c3
  have q24 := fun k os => ((k2).grown k os).c4
  have call := same_any (L p) (C p) (P1 p) (J1 p) (M1 p) (L p) (C p) (P2 p) (J2 p) (M2 p) true (by simp)
  clear k1 k2 hp
  go_quiet_grown (first | (go_at_call 15; refine Calls.grown_of (call _)))
  exact HQ.out _ _ _ _ _ _ _ _ _ _ _ _ _ _ _ _ _ _ _ _ _ _ _ _ _ _ (grown_below HB0.out HB0.out.size nq osq)

set_option maxHeartbeats 8000000 in
set_option maxRecDepth 1000000 in
theorem reg19 (w0 w : World) (HB : RowKit.Below w0.heap.size w0 w) (n G1 G2 p : Nat) (L C : Nat → Int) (P1 : Nat → ByteArray) (J1 : Nat → Bool) (M1 : Nat → ByteArray) (P2 : Nat → ByteArray) (J2 : Nat → Bool) (M2 : Nat → ByteArray) (hn2 : n ≤ 1048576) (hlt : p < n) (hT : Twin w0 G1 G2 n L C P1 J1 M1 P2 J2 M2) (u0 u1 u2 u3 u4 u5 u6 u7 u9 u11 u13 u14 u15 u16 u17 u18 u19 u20 u21 u22 u23 u24 u25 u26 u27 u28 u29 u30 u31 u32 u33 u34 u35 u36 u37 u38 u39 u40 u41 u42 u43 u44 u45 u46 u47 u48 u49 u50 u51 u52 u53 u54 u55 u56 u57 u58 u59 u60 u61 u62 u63 u64 u65 u66 u67 u68 u69 u70 u71 u72 u73 u74 u75 u76 u77 u78 u79 u80 u81 u82 u83 u84 u85 u86 u87 u88 u89 u90 u91 u92 u93 u94 u95 u96 u97 u98 u99 u100 u101 u102 u103 u104 u105 u106 u107 u108 u109 u110 u111 u112 u113 u114 u115 u116 u117 u118 u119 u120 u121 u122 u123 u124 u125 u126 u127 u128 u129 u130 u131 u132 u133 u134 u135 u136 u137 u138 u139 u140 u141 u142 u143 u144 u145 u146 u147 u148 u149 u150 u151 u152 u153 u154 u155 u156 u157 u158 u159 u160 : Value) (Q : Exit → Act → World → Prop)
    (hQ : ∀ (x99 x100 x101 x102 x103 x104 x105 x106 x107 x108 x109 x110 x111 : Value) (w' : World), RowKit.Below w0.heap.size w0 w' → Q .normal ⟨#[u0, u1, u2, u3, u4, u5, u6, u7, .slice (some ⟨G1, 0, none⟩) n n, u9, .slice (some ⟨G2, 0, none⟩) n n, u11, .int .i64 (p : Int), u13, u14, u15, u16, u17, u18, u19, u20, u21, u22, u23, u24, u25, u26, u27, u28, u29, u30, u31, u32, u33, u34, u35, u36, u37, u38, u39, u40, u41, u42, u43, u44, u45, u46, u47, u48, u49, u50, u51, u52, u53, u54, u55, u56, u57, u58, u59, u60, u61, u62, u63, u64, u65, u66, u67, u68, u69, u70, u71, u72, u73, u74, u75, u76, u77, u78, u79, u80, u81, u82, u83, u84, u85, u86, u87, u88, u89, u90, u91, u92, u93, u94, u95, u96, u97, u98, x99, x100, x101, x102, x103, x104, x105, x106, x107, x108, x109, x110, x111, .bool false, u113, u114, u115, u116, u117, u118, u119, u120, u121, u122, u123, u124, u125, u126, u127, u128, u129, u130, u131, u132, u133, u134, u135, u136, u137, u138, u139, u140, u141, u142, u143, u144, u145, u146, u147, u148, u149, u150, u151, u152, u153, u154, u155, u156, u157, u158, u159, u160], []⟩ w') :
    Code.wp Try.prog (sq1 (sq1 (sq2 (sq2 (inB (sq1 (sq2 (sq2 (inB (inB (sq2 (sq1 (dropC 10 (Try.f5.body.getD .skip)))))))))))))) Q ⟨#[u0, u1, u2, u3, u4, u5, u6, u7, .slice (some ⟨G1, 0, none⟩) n n, u9, .slice (some ⟨G2, 0, none⟩) n n, u11, .int .i64 (p : Int), u13, u14, u15, u16, u17, u18, u19, u20, u21, u22, u23, u24, u25, u26, u27, u28, u29, u30, u31, u32, u33, u34, u35, u36, u37, u38, u39, u40, u41, u42, u43, u44, u45, u46, u47, u48, u49, u50, u51, u52, u53, u54, u55, u56, u57, u58, u59, u60, u61, u62, u63, u64, u65, u66, u67, u68, u69, u70, u71, u72, u73, u74, u75, u76, u77, u78, u79, u80, u81, u82, u83, u84, u85, u86, u87, u88, u89, u90, u91, u92, u93, u94, u95, u96, u97, u98, u99, u100, u101, u102, u103, u104, u105, u106, u107, u108, u109, u110, u111, u112, u113, u114, u115, u116, u117, u118, u119, u120, u121, u122, u123, u124, u125, u126, u127, u128, u129, u130, u131, u132, u133, u134, u135, u136, u137, u138, u139, u140, u141, u142, u143, u144, u145, u146, u147, u148, u149, u150, u151, u152, u153, u154, u155, u156, u157, u158, u159, u160], []⟩ w := by
  have mixed : Try.prog.follows .mixedOrders = true := by kernel_rfl
  have HT : Hid (Twin w0 G1 G2 n L C P1 J1 M1 P2 J2 M2) := hT
  have HB0 : Hid (RowKit.Below w0.heap.size w0 w) := HB
  have HQ : Hid (∀ (x99 x100 x101 x102 x103 x104 x105 x106 x107 x108 x109 x110 x111 : Value) (w' : World), RowKit.Below w0.heap.size w0 w' → Q .normal ⟨#[u0, u1, u2, u3, u4, u5, u6, u7, .slice (some ⟨G1, 0, none⟩) n n, u9, .slice (some ⟨G2, 0, none⟩) n n, u11, .int .i64 (p : Int), u13, u14, u15, u16, u17, u18, u19, u20, u21, u22, u23, u24, u25, u26, u27, u28, u29, u30, u31, u32, u33, u34, u35, u36, u37, u38, u39, u40, u41, u42, u43, u44, u45, u46, u47, u48, u49, u50, u51, u52, u53, u54, u55, u56, u57, u58, u59, u60, u61, u62, u63, u64, u65, u66, u67, u68, u69, u70, u71, u72, u73, u74, u75, u76, u77, u78, u79, u80, u81, u82, u83, u84, u85, u86, u87, u88, u89, u90, u91, u92, u93, u94, u95, u96, u97, u98, x99, x100, x101, x102, x103, x104, x105, x106, x107, x108, x109, x110, x111, .bool false, u113, u114, u115, u116, u117, u118, u119, u120, u121, u122, u123, u124, u125, u126, u127, u128, u129, u130, u131, u132, u133, u134, u135, u136, u137, u138, u139, u140, u141, u142, u143, u144, u145, u146, u147, u148, u149, u150, u151, u152, u153, u154, u155, u156, u157, u158, u159, u160], []⟩ w') := hQ
  have hlt' : (p : Int) < n := by omega
  clear hQ hT HB
  conv => arg 2; whnf
  by_cases h0 : p = 0
  · have h0' : ¬ (0 : Int) < (p : Int) := by omega
    have h0d : decide ((0 : Int) < (p : Int)) = false := decide_eq_false h0'
    have h0n : ¬ 0 < p := by omega
    have h0e : decide (0 < p) = false := decide_eq_false h0n
    clear h0
    go_quiet (fail)
    exact HQ.out _ _ _ _ _ _ _ _ _ _ _ _ _ _ (below_drewN' HB0.out nq)
  · obtain ⟨k, hk⟩ : ∃ k, p = k + 1 := ⟨p - 1, by omega⟩
    have h0' : (0 : Int) < (p : Int) := by omega
    have h0d : decide ((0 : Int) < (p : Int)) = true := decide_eq_true h0'
    have h0n : 0 < p := by omega
    have h0e : decide (0 < p) = true := decide_eq_true h0n
    clear h0
    have hk1 : (p : Int) - 1 = (k : Int) := by omega
    have hkn : (k : Int) < n := by omega
    have hwk : IntKind.i64.wrap (k : Int) = (k : Int) := by rw [IntKind.wrap_i64]; omega
    have k1 := (HT.out.one p hlt).below HB0.out
    have k2 := (HT.out.one k (by omega)).below HB0.out
    have q10 := fun k os => ((k1).grown k os).c0
    have q11 := fun k os => ((k1).grown k os).c1
    have q12 := fun k os => ((k1).grown k os).c2
    have q13 := fun k os => ((k1).grown k os).c3
    have q14 := fun k os => ((k1).grown k os).c4
    have q20 := fun k os => ((k2).grown k os).c0
    have q21 := fun k os => ((k2).grown k os).c1
    have q22 := fun k os => ((k2).grown k os).c2
    have q23 := fun k os => ((k2).grown k os).c3
    have q24 := fun k os => ((k2).grown k os).c4
    have hm := HT.out.mono k (by omega)
    rw [← hk] at hm
    have call := before_not (L p) (C p) (P1 p) (J1 p) (M1 p) (L k) (C k) (P1 k) (J1 k) (M1 k) hm
    clear k1 k2 hm hk
    go_quiet_grown (first | (go_at_call 16; refine Calls.grown_of (call _)))
    exact HQ.out _ _ _ _ _ _ _ _ _ _ _ _ _ _ (grown_below HB0.out HB0.out.size nq osq)

set_option maxHeartbeats 8000000 in
set_option maxRecDepth 1000000 in
theorem reg22 (w0 w : World) (HB : RowKit.Below w0.heap.size w0 w) (n G1 G2 p : Nat) (L C : Nat → Int) (P1 : Nat → ByteArray) (J1 : Nat → Bool) (M1 : Nat → ByteArray) (P2 : Nat → ByteArray) (J2 : Nat → Bool) (M2 : Nat → ByteArray) (hn2 : n ≤ 1048576) (hlt : p < n) (hT : Twin w0 G1 G2 n L C P1 J1 M1 P2 J2 M2) (b : Bool) (HL : b = true → P2 p = P1 p ∧ J2 p = J1 p ∧ M2 p = M1 p) (u0 u1 u2 u3 u4 u5 u6 u7 u9 u11 u14 u15 u16 u17 u18 u19 u20 u21 u22 u23 u24 u25 u26 u27 u28 u29 u30 u31 u32 u33 u34 u35 u36 u37 u38 u39 u40 u41 u42 u43 u44 u45 u46 u47 u48 u49 u50 u51 u52 u53 u54 u55 u56 u57 u58 u59 u60 u61 u62 u63 u64 u65 u66 u67 u68 u69 u70 u71 u72 u73 u74 u75 u76 u77 u78 u79 u80 u81 u82 u83 u84 u85 u86 u87 u88 u89 u90 u91 u92 u93 u94 u95 u96 u97 u98 u99 u100 u101 u102 u103 u104 u105 u106 u107 u108 u109 u110 u111 u112 u113 u114 u115 u116 u117 u118 u119 u120 u121 u122 u123 u124 u125 u126 u127 u128 u129 u130 u131 u132 u133 u134 u135 u136 u137 u138 u139 u140 u141 u142 u143 u144 u145 u146 u147 u148 u149 u150 u151 u152 u153 u154 u155 u156 u157 u158 u159 u160 : Value) (Q : Exit → Act → World → Prop)
    (hQ : ∀ (x148 x149 x150 x151 x152 x153 x154 x155 x156 x157 x158 : Value) (w' : World), RowKit.Below w0.heap.size w0 w' → Q .normal ⟨#[u0, u1, u2, u3, u4, u5, u6, u7, .slice (some ⟨G1, 0, none⟩) n n, u9, .slice (some ⟨G2, 0, none⟩) n n, u11, .int .i64 (p : Int), .bool b, u14, u15, u16, u17, u18, u19, u20, u21, u22, u23, u24, u25, u26, u27, u28, u29, u30, u31, u32, u33, u34, u35, u36, u37, u38, u39, u40, u41, u42, u43, u44, u45, u46, u47, u48, u49, u50, u51, u52, u53, u54, u55, u56, u57, u58, u59, u60, u61, u62, u63, u64, u65, u66, u67, u68, u69, u70, u71, u72, u73, u74, u75, u76, u77, u78, u79, u80, u81, u82, u83, u84, u85, u86, u87, u88, u89, u90, u91, u92, u93, u94, u95, u96, u97, u98, u99, u100, u101, u102, u103, u104, u105, u106, u107, u108, u109, u110, u111, u112, u113, u114, u115, u116, u117, u118, u119, u120, u121, u122, u123, u124, u125, u126, u127, u128, u129, u130, u131, u132, u133, u134, u135, u136, u137, u138, u139, u140, u141, u142, u143, u144, u145, u146, u147, x148, x149, x150, x151, x152, x153, x154, x155, x156, x157, x158, .bool false, u160], []⟩ w') :
    Code.wp Try.prog (sq1 (sq2 (sq2 (sq2 (sq2 (inB (sq1 (sq2 (sq2 (inB (inB (sq2 (sq1 (dropC 10 (Try.f5.body.getD .skip))))))))))))))) Q ⟨#[u0, u1, u2, u3, u4, u5, u6, u7, .slice (some ⟨G1, 0, none⟩) n n, u9, .slice (some ⟨G2, 0, none⟩) n n, u11, .int .i64 (p : Int), .bool b, u14, u15, u16, u17, u18, u19, u20, u21, u22, u23, u24, u25, u26, u27, u28, u29, u30, u31, u32, u33, u34, u35, u36, u37, u38, u39, u40, u41, u42, u43, u44, u45, u46, u47, u48, u49, u50, u51, u52, u53, u54, u55, u56, u57, u58, u59, u60, u61, u62, u63, u64, u65, u66, u67, u68, u69, u70, u71, u72, u73, u74, u75, u76, u77, u78, u79, u80, u81, u82, u83, u84, u85, u86, u87, u88, u89, u90, u91, u92, u93, u94, u95, u96, u97, u98, u99, u100, u101, u102, u103, u104, u105, u106, u107, u108, u109, u110, u111, u112, u113, u114, u115, u116, u117, u118, u119, u120, u121, u122, u123, u124, u125, u126, u127, u128, u129, u130, u131, u132, u133, u134, u135, u136, u137, u138, u139, u140, u141, u142, u143, u144, u145, u146, u147, u148, u149, u150, u151, u152, u153, u154, u155, u156, u157, u158, u159, u160], []⟩ w := by
  have mixed : Try.prog.follows .mixedOrders = true := by kernel_rfl
  have HT : Hid (Twin w0 G1 G2 n L C P1 J1 M1 P2 J2 M2) := hT
  have HB0 : Hid (RowKit.Below w0.heap.size w0 w) := HB
  have HQ : Hid (∀ (x148 x149 x150 x151 x152 x153 x154 x155 x156 x157 x158 : Value) (w' : World), RowKit.Below w0.heap.size w0 w' → Q .normal ⟨#[u0, u1, u2, u3, u4, u5, u6, u7, .slice (some ⟨G1, 0, none⟩) n n, u9, .slice (some ⟨G2, 0, none⟩) n n, u11, .int .i64 (p : Int), .bool b, u14, u15, u16, u17, u18, u19, u20, u21, u22, u23, u24, u25, u26, u27, u28, u29, u30, u31, u32, u33, u34, u35, u36, u37, u38, u39, u40, u41, u42, u43, u44, u45, u46, u47, u48, u49, u50, u51, u52, u53, u54, u55, u56, u57, u58, u59, u60, u61, u62, u63, u64, u65, u66, u67, u68, u69, u70, u71, u72, u73, u74, u75, u76, u77, u78, u79, u80, u81, u82, u83, u84, u85, u86, u87, u88, u89, u90, u91, u92, u93, u94, u95, u96, u97, u98, u99, u100, u101, u102, u103, u104, u105, u106, u107, u108, u109, u110, u111, u112, u113, u114, u115, u116, u117, u118, u119, u120, u121, u122, u123, u124, u125, u126, u127, u128, u129, u130, u131, u132, u133, u134, u135, u136, u137, u138, u139, u140, u141, u142, u143, u144, u145, u146, u147, x148, x149, x150, x151, x152, x153, x154, x155, x156, x157, x158, .bool false, u160], []⟩ w') := hQ
  have hlt' : (p : Int) < n := by omega
  clear hQ hT HB
  conv => arg 2; whnf
  have k1 := (HT.out.one p hlt).below HB0.out
  have k2 := (HT.out.two p hlt).below HB0.out
  cases b
  · clear k1 k2 HL
    go_quiet (fail)
    exact HQ.out _ _ _ _ _ _ _ _ _ _ _ _ (below_drewN' HB0.out nq)
  · have hsame := HL rfl
    rw [hsame.1, hsame.2.1, hsame.2.2] at k2
    obtain ⟨q10, q11, q12, q13, q14⟩ := k1
    obtain ⟨q20, q21, q22, q23, q24⟩ := k2
    clear hsame HL
    go_quiet (fail)
    exact HQ.out _ _ _ _ _ _ _ _ _ _ _ _ (below_drewN' HB0.out nq)
end Go.Proofs.Qxb6614456a
