/-
  THE REGION of the law's loop that reckons whether a place is lone.
-/
import Derived.Test.Qxb6614456aReg
namespace Go.Proofs.Qxb6614456a
open Go Go.RowKit Go.Sort Go.Shelf Go.Lib
set_option linter.unusedVariables false
attribute [local irreducible] wpQuiet

set_option maxHeartbeats 8000000 in
set_option maxRecDepth 1000000 in
theorem reg21c (w0 w : World) (HB : RowKit.Below w0.heap.size w0 w) (n G1 G2 p : Nat) (L C : Nat → Int) (P1 : Nat → ByteArray) (J1 : Nat → Bool) (M1 : Nat → ByteArray) (P2 : Nat → ByteArray) (J2 : Nat → Bool) (M2 : Nat → ByteArray) (hn2 : n ≤ 1048576) (hlt : p < n) (hT : Twin w0 G1 G2 n L C P1 J1 M1 P2 J2 M2) (h0 : p = 0) (hl : ¬ p + 1 = n) (hb2 : (L (p + 1) == L p && C (p + 1) == C p) = true) (u0 u1 u2 u3 u4 u5 u6 u7 u9 u11 u13 u14 u15 u16 u17 u18 u19 u20 u21 u22 u23 u24 u25 u26 u27 u28 u29 u30 u31 u32 u33 u34 u35 u36 u37 u38 u39 u40 u41 u42 u43 u44 u45 u46 u47 u48 u49 u50 u51 u52 u53 u54 u55 u56 u57 u58 u59 u60 u61 u62 u63 u64 u65 u66 u67 u68 u69 u70 u71 u72 u73 u74 u75 u76 u77 u78 u79 u80 u81 u82 u83 u84 u85 u86 u87 u88 u89 u90 u91 u92 u93 u94 u95 u96 u97 u98 u99 u100 u101 u102 u103 u104 u105 u106 u107 u108 u109 u110 u111 u112 u113 u114 u115 u116 u117 u118 u119 u120 u121 u122 u123 u124 u125 u126 u127 u128 u129 u130 u131 u132 u133 u134 u135 u136 u137 u138 u139 u140 u141 u142 u143 u144 u145 u146 u147 u148 u149 u150 u151 u152 u153 u154 u155 u156 u157 u158 u159 u160 : Value) (Q : Exit → Act → World → Prop)
    (hQ : ∀ (x113 x114 x115 x116 x117 x118 x119 x120 x121 x122 x123 x124 x125 x126 x127 x128 x129 x130 x131 x132 x133 x134 x135 x136 x137 x138 x139 x140 x141 x142 x143 x144 x145 x146 x147 : Value) (b : Bool) (w' : World), (b = true → P2 p = P1 p ∧ J2 p = J1 p ∧ M2 p = M1 p) → RowKit.Below w0.heap.size w0 w' → Q .normal ⟨#[u0, u1, u2, u3, u4, u5, u6, u7, .slice (some ⟨G1, 0, none⟩) n n, u9, .slice (some ⟨G2, 0, none⟩) n n, u11, .int .i64 (p : Int), .bool b, u14, u15, u16, u17, u18, u19, u20, u21, u22, u23, u24, u25, u26, u27, u28, u29, u30, u31, u32, u33, u34, u35, u36, u37, u38, u39, u40, u41, u42, u43, u44, u45, u46, u47, u48, u49, u50, u51, u52, u53, u54, u55, u56, u57, u58, u59, u60, u61, u62, u63, u64, u65, u66, u67, u68, u69, u70, u71, u72, u73, u74, u75, u76, u77, u78, u79, u80, u81, u82, u83, u84, u85, u86, u87, u88, u89, u90, u91, u92, u93, u94, u95, u96, u97, u98, u99, u100, u101, u102, u103, u104, u105, u106, u107, u108, u109, u110, u111, u112, x113, x114, x115, x116, x117, x118, x119, x120, x121, x122, x123, x124, x125, x126, x127, x128, x129, x130, x131, x132, x133, x134, x135, x136, x137, x138, x139, x140, x141, x142, x143, x144, x145, x146, x147, u148, u149, u150, u151, u152, u153, u154, u155, u156, u157, u158, u159, u160], []⟩ w') :
    Code.wp Try.prog (sq1 (sq2 (sq2 (sq2 (inB (sq1 (sq2 (sq2 (inB (inB (sq2 (sq1 (dropC 10 (Try.f5.body.getD .skip)))))))))))))) Q ⟨#[u0, u1, u2, u3, u4, u5, u6, u7, .slice (some ⟨G1, 0, none⟩) n n, u9, .slice (some ⟨G2, 0, none⟩) n n, u11, .int .i64 (p : Int), u13, u14, u15, u16, u17, u18, u19, u20, u21, u22, u23, u24, u25, u26, u27, u28, u29, u30, u31, u32, u33, u34, u35, u36, u37, u38, u39, u40, u41, u42, u43, u44, u45, u46, u47, u48, u49, u50, u51, u52, u53, u54, u55, u56, u57, u58, u59, u60, u61, u62, u63, u64, u65, u66, u67, u68, u69, u70, u71, u72, u73, u74, u75, u76, u77, u78, u79, u80, u81, u82, u83, u84, u85, u86, u87, u88, u89, u90, u91, u92, u93, u94, u95, u96, u97, u98, u99, u100, u101, u102, u103, u104, u105, u106, u107, u108, u109, u110, u111, u112, u113, u114, u115, u116, u117, u118, u119, u120, u121, u122, u123, u124, u125, u126, u127, u128, u129, u130, u131, u132, u133, u134, u135, u136, u137, u138, u139, u140, u141, u142, u143, u144, u145, u146, u147, u148, u149, u150, u151, u152, u153, u154, u155, u156, u157, u158, u159, u160], []⟩ w := by
  have mixed : Try.prog.follows .mixedOrders = true := by kernel_rfl
  have HT : Hid (Twin w0 G1 G2 n L C P1 J1 M1 P2 J2 M2) := hT
  have HB0 : Hid (RowKit.Below w0.heap.size w0 w) := HB
  have HQ : Hid (∀ (x113 x114 x115 x116 x117 x118 x119 x120 x121 x122 x123 x124 x125 x126 x127 x128 x129 x130 x131 x132 x133 x134 x135 x136 x137 x138 x139 x140 x141 x142 x143 x144 x145 x146 x147 : Value) (b : Bool) (w' : World), (b = true → P2 p = P1 p ∧ J2 p = J1 p ∧ M2 p = M1 p) → RowKit.Below w0.heap.size w0 w' → Q .normal ⟨#[u0, u1, u2, u3, u4, u5, u6, u7, .slice (some ⟨G1, 0, none⟩) n n, u9, .slice (some ⟨G2, 0, none⟩) n n, u11, .int .i64 (p : Int), .bool b, u14, u15, u16, u17, u18, u19, u20, u21, u22, u23, u24, u25, u26, u27, u28, u29, u30, u31, u32, u33, u34, u35, u36, u37, u38, u39, u40, u41, u42, u43, u44, u45, u46, u47, u48, u49, u50, u51, u52, u53, u54, u55, u56, u57, u58, u59, u60, u61, u62, u63, u64, u65, u66, u67, u68, u69, u70, u71, u72, u73, u74, u75, u76, u77, u78, u79, u80, u81, u82, u83, u84, u85, u86, u87, u88, u89, u90, u91, u92, u93, u94, u95, u96, u97, u98, u99, u100, u101, u102, u103, u104, u105, u106, u107, u108, u109, u110, u111, u112, x113, x114, x115, x116, x117, x118, x119, x120, x121, x122, x123, x124, x125, x126, x127, x128, x129, x130, x131, x132, x133, x134, x135, x136, x137, x138, x139, x140, x141, x142, x143, x144, x145, x146, x147, u148, u149, u150, u151, u152, u153, u154, u155, u156, u157, u158, u159, u160], []⟩ w') := hQ
  have hlt' : (p : Int) < n := by omega
  clear hQ hT HB
  conv => arg 2; whnf
  have k1 := (HT.out.one p hlt).below HB0.out
  have q10 := fun k os => ((k1).grown k os).c0
  have q11 := fun k os => ((k1).grown k os).c1
  have q12 := fun k os => ((k1).grown k os).c2
  have q13 := fun k os => ((k1).grown k os).c3
  have q14 := fun k os => ((k1).grown k os).c4
  obtain ⟨e, he⟩ : ∃ e, n = e + 1 := ⟨n - 1, by omega⟩
  have hn1 : (n : Int) - 1 = (e : Int) := by omega
  have hew : IntKind.i64.wrap (e : Int) = (e : Int) := by rw [IntKind.wrap_i64]; omega
  have h0' : ((p : Int) == 0) = true := by simp; omega
  have h0n : (p == 0) = true := by simp; omega
  have h0m : decide (p = 0) = true := by simp; omega
  have H0 : Hid (p = 0) := h0
  clear k1 h0
  have hl1 : ((p : Int) == (e : Int)) = false := by simp; omega
  have hl2 : (p == e) = false := by simp; omega
  have hl3 : decide (p = e) = false := by simp; omega
  obtain ⟨m, hm⟩ : ∃ m, m = p + 1 := ⟨_, rfl⟩
  have hm1 : (p : Int) + 1 = (m : Int) := by omega
  have hmn : (m : Int) < n := by omega
  have hmw : IntKind.i64.wrap (m : Int) = (m : Int) := by rw [IntKind.wrap_i64]; omega
  have k3 := (HT.out.one m (by omega)).below HB0.out
  have q30 := fun k os => ((k3).grown k os).c0
  have q31 := fun k os => ((k3).grown k os).c1
  have q32 := fun k os => ((k3).grown k os).c2
  have q33 := fun k os => ((k3).grown k os).c3
  have q34 := fun k os => ((k3).grown k os).c4
  have Hb2 : Hid ((L (p + 1) == L p && C (p + 1) == C p) = true) := hb2
  rw [← hm] at hb2
  have call2 := same_any (L m) (C m) (P1 m) (J1 m) (M1 m) (L p) (C p) (P1 p) (J1 p) (M1 p) true hb2.symm
  clear k3 hb2 hm hl he
  go_quiet_grown (first | (go_at_call 15; first | refine Calls.grown_of (call2 _)))
  exact HQ.out _ _ _ _ _ _ _ _ _ _ _ _ _ _ _ _ _ _ _ _ _ _ _ _ _ _ _ _ _ _ _ _ _ _ _ false _ (fun h => (Bool.false_ne_true h).elim) (grown_below HB0.out HB0.out.size nq osq)

set_option maxHeartbeats 8000000 in
set_option maxRecDepth 1000000 in
theorem reg21d (w0 w : World) (HB : RowKit.Below w0.heap.size w0 w) (n G1 G2 p : Nat) (L C : Nat → Int) (P1 : Nat → ByteArray) (J1 : Nat → Bool) (M1 : Nat → ByteArray) (P2 : Nat → ByteArray) (J2 : Nat → Bool) (M2 : Nat → ByteArray) (hn2 : n ≤ 1048576) (hlt : p < n) (hT : Twin w0 G1 G2 n L C P1 J1 M1 P2 J2 M2) (h0 : ¬ p = 0) (hb1 : (L (p - 1) == L p && C (p - 1) == C p) = false) (hl : p + 1 = n) (u0 u1 u2 u3 u4 u5 u6 u7 u9 u11 u13 u14 u15 u16 u17 u18 u19 u20 u21 u22 u23 u24 u25 u26 u27 u28 u29 u30 u31 u32 u33 u34 u35 u36 u37 u38 u39 u40 u41 u42 u43 u44 u45 u46 u47 u48 u49 u50 u51 u52 u53 u54 u55 u56 u57 u58 u59 u60 u61 u62 u63 u64 u65 u66 u67 u68 u69 u70 u71 u72 u73 u74 u75 u76 u77 u78 u79 u80 u81 u82 u83 u84 u85 u86 u87 u88 u89 u90 u91 u92 u93 u94 u95 u96 u97 u98 u99 u100 u101 u102 u103 u104 u105 u106 u107 u108 u109 u110 u111 u112 u113 u114 u115 u116 u117 u118 u119 u120 u121 u122 u123 u124 u125 u126 u127 u128 u129 u130 u131 u132 u133 u134 u135 u136 u137 u138 u139 u140 u141 u142 u143 u144 u145 u146 u147 u148 u149 u150 u151 u152 u153 u154 u155 u156 u157 u158 u159 u160 : Value) (Q : Exit → Act → World → Prop)
    (hQ : ∀ (x113 x114 x115 x116 x117 x118 x119 x120 x121 x122 x123 x124 x125 x126 x127 x128 x129 x130 x131 x132 x133 x134 x135 x136 x137 x138 x139 x140 x141 x142 x143 x144 x145 x146 x147 : Value) (b : Bool) (w' : World), (b = true → P2 p = P1 p ∧ J2 p = J1 p ∧ M2 p = M1 p) → RowKit.Below w0.heap.size w0 w' → Q .normal ⟨#[u0, u1, u2, u3, u4, u5, u6, u7, .slice (some ⟨G1, 0, none⟩) n n, u9, .slice (some ⟨G2, 0, none⟩) n n, u11, .int .i64 (p : Int), .bool b, u14, u15, u16, u17, u18, u19, u20, u21, u22, u23, u24, u25, u26, u27, u28, u29, u30, u31, u32, u33, u34, u35, u36, u37, u38, u39, u40, u41, u42, u43, u44, u45, u46, u47, u48, u49, u50, u51, u52, u53, u54, u55, u56, u57, u58, u59, u60, u61, u62, u63, u64, u65, u66, u67, u68, u69, u70, u71, u72, u73, u74, u75, u76, u77, u78, u79, u80, u81, u82, u83, u84, u85, u86, u87, u88, u89, u90, u91, u92, u93, u94, u95, u96, u97, u98, u99, u100, u101, u102, u103, u104, u105, u106, u107, u108, u109, u110, u111, u112, x113, x114, x115, x116, x117, x118, x119, x120, x121, x122, x123, x124, x125, x126, x127, x128, x129, x130, x131, x132, x133, x134, x135, x136, x137, x138, x139, x140, x141, x142, x143, x144, x145, x146, x147, u148, u149, u150, u151, u152, u153, u154, u155, u156, u157, u158, u159, u160], []⟩ w') :
    Code.wp Try.prog (sq1 (sq2 (sq2 (sq2 (inB (sq1 (sq2 (sq2 (inB (inB (sq2 (sq1 (dropC 10 (Try.f5.body.getD .skip)))))))))))))) Q ⟨#[u0, u1, u2, u3, u4, u5, u6, u7, .slice (some ⟨G1, 0, none⟩) n n, u9, .slice (some ⟨G2, 0, none⟩) n n, u11, .int .i64 (p : Int), u13, u14, u15, u16, u17, u18, u19, u20, u21, u22, u23, u24, u25, u26, u27, u28, u29, u30, u31, u32, u33, u34, u35, u36, u37, u38, u39, u40, u41, u42, u43, u44, u45, u46, u47, u48, u49, u50, u51, u52, u53, u54, u55, u56, u57, u58, u59, u60, u61, u62, u63, u64, u65, u66, u67, u68, u69, u70, u71, u72, u73, u74, u75, u76, u77, u78, u79, u80, u81, u82, u83, u84, u85, u86, u87, u88, u89, u90, u91, u92, u93, u94, u95, u96, u97, u98, u99, u100, u101, u102, u103, u104, u105, u106, u107, u108, u109, u110, u111, u112, u113, u114, u115, u116, u117, u118, u119, u120, u121, u122, u123, u124, u125, u126, u127, u128, u129, u130, u131, u132, u133, u134, u135, u136, u137, u138, u139, u140, u141, u142, u143, u144, u145, u146, u147, u148, u149, u150, u151, u152, u153, u154, u155, u156, u157, u158, u159, u160], []⟩ w := by
  have mixed : Try.prog.follows .mixedOrders = true := by kernel_rfl
  have HT : Hid (Twin w0 G1 G2 n L C P1 J1 M1 P2 J2 M2) := hT
  have HB0 : Hid (RowKit.Below w0.heap.size w0 w) := HB
  have HQ : Hid (∀ (x113 x114 x115 x116 x117 x118 x119 x120 x121 x122 x123 x124 x125 x126 x127 x128 x129 x130 x131 x132 x133 x134 x135 x136 x137 x138 x139 x140 x141 x142 x143 x144 x145 x146 x147 : Value) (b : Bool) (w' : World), (b = true → P2 p = P1 p ∧ J2 p = J1 p ∧ M2 p = M1 p) → RowKit.Below w0.heap.size w0 w' → Q .normal ⟨#[u0, u1, u2, u3, u4, u5, u6, u7, .slice (some ⟨G1, 0, none⟩) n n, u9, .slice (some ⟨G2, 0, none⟩) n n, u11, .int .i64 (p : Int), .bool b, u14, u15, u16, u17, u18, u19, u20, u21, u22, u23, u24, u25, u26, u27, u28, u29, u30, u31, u32, u33, u34, u35, u36, u37, u38, u39, u40, u41, u42, u43, u44, u45, u46, u47, u48, u49, u50, u51, u52, u53, u54, u55, u56, u57, u58, u59, u60, u61, u62, u63, u64, u65, u66, u67, u68, u69, u70, u71, u72, u73, u74, u75, u76, u77, u78, u79, u80, u81, u82, u83, u84, u85, u86, u87, u88, u89, u90, u91, u92, u93, u94, u95, u96, u97, u98, u99, u100, u101, u102, u103, u104, u105, u106, u107, u108, u109, u110, u111, u112, x113, x114, x115, x116, x117, x118, x119, x120, x121, x122, x123, x124, x125, x126, x127, x128, x129, x130, x131, x132, x133, x134, x135, x136, x137, x138, x139, x140, x141, x142, x143, x144, x145, x146, x147, u148, u149, u150, u151, u152, u153, u154, u155, u156, u157, u158, u159, u160], []⟩ w') := hQ
  have hlt' : (p : Int) < n := by omega
  clear hQ hT HB
  conv => arg 2; whnf
  have k1 := (HT.out.one p hlt).below HB0.out
  have q10 := fun k os => ((k1).grown k os).c0
  have q11 := fun k os => ((k1).grown k os).c1
  have q12 := fun k os => ((k1).grown k os).c2
  have q13 := fun k os => ((k1).grown k os).c3
  have q14 := fun k os => ((k1).grown k os).c4
  obtain ⟨e, he⟩ : ∃ e, n = e + 1 := ⟨n - 1, by omega⟩
  have hn1 : (n : Int) - 1 = (e : Int) := by omega
  have hew : IntKind.i64.wrap (e : Int) = (e : Int) := by rw [IntKind.wrap_i64]; omega
  obtain ⟨k, hk⟩ : ∃ k, p = k + 1 := ⟨p - 1, by omega⟩
  have h0' : ((p : Int) == 0) = false := by simp; omega
  have h0n : (p == 0) = false := by simp; omega
  have h0m : decide (p = 0) = false := by simp; omega
  clear h0
  have hk1 : (p : Int) - 1 = (k : Int) := by omega
  have hkn : (k : Int) < n := by omega
  have hwk : IntKind.i64.wrap (k : Int) = (k : Int) := by rw [IntKind.wrap_i64]; omega
  have k2 := (HT.out.one k (by omega)).below HB0.out
  have q20 := fun k os => ((k2).grown k os).c0
  have q21 := fun k os => ((k2).grown k os).c1
  have q22 := fun k os => ((k2).grown k os).c2
  have q23 := fun k os => ((k2).grown k os).c3
  have q24 := fun k os => ((k2).grown k os).c4
  have Hb1 : Hid ((L (p - 1) == L p && C (p - 1) == C p) = false) := hb1
  rw [show p - 1 = k by omega] at hb1
  have call1 := same_any (L k) (C k) (P1 k) (J1 k) (M1 k) (L p) (C p) (P1 p) (J1 p) (M1 p) false hb1.symm
  clear k1 k2 hb1 hk
  have HL0 : Hid (p + 1 = n) := hl
  have hl1 : ((p : Int) == (e : Int)) = true := by simp; omega
  have hl2 : (p == e) = true := by simp; omega
  have hl3 : decide (p = e) = true := by simp; omega
  clear hl he
  go_quiet_grown (first | (go_at_call 15; first | refine Calls.grown_of (call1 _)))
  exact HQ.out _ _ _ _ _ _ _ _ _ _ _ _ _ _ _ _ _ _ _ _ _ _ _ _ _ _ _ _ _ _ _ _ _ _ _ _ _ (fun _ => HT.out.lone p hlt (.inr Hb1.out) (.inl HL0.out)) (grown_below HB0.out HB0.out.size nq osq)
end Go.Proofs.Qxb6614456a
