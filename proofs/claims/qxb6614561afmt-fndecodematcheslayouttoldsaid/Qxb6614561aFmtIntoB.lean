/-
  THE WALK of DecodeInto, cut by cut: on.
-/
import Derived.Test.Qxb6614561aFmtIntoA
namespace Go.Proofs.Qxb6614561aFmt
open Go Go.RowKit Go.Extern.Stop Go.Stop Go.Extern
set_option linter.unusedVariables false

set_option maxHeartbeats 4000000 in
set_option maxRecDepth 100000 in
theorem into_14 (F : Interp) (C g n : Nat) (bs : List UInt8) (ao : Option Addr) (w : World) (hF : F.answers w.tape) (hlen : bs.length ≤ 1048576) (hgD : g < w.heap.size) (hCne : ¬ w.heap.size = C) (f : Int) (u8 u9 u10 u11 u12 u13 u14 u15 u16 u17 u18 u19 u20 u21 u22 u23 u24 u25 u26 u27 u28 u29 u30 u31 u32 u33 u34 u35 u36 u37 u38 u39 u40 u41 u42 u43 u44 u45 u46 u47 u48 u49 u50 u51 u52 u53 u54 u55 u56 u57 u58 u59 u60 u61 u62 u63 u64 u65 u66 u67 u68 u69 u70 u71 u72 u73 u74 u75 u76 u77 u78 u79 u80 u81 u82 u83 u84 u85 u86 u87 u88 u89 u90 u91 u92 u93 u94 u95 u96 u97 u98 u99 u100 u101 u102 u103 u104 u105 u106 u107 u108 u109 u110 u111 u112 u113 u114 u115 u116 u117 u118 u119 u120 u121 u122 u123 u124 u125 u126 u127 u128 u129 u130 u131 u132 u133 u134 u135 u136 u137 u138 u139 u140 u141 u142 u143 u144 u145 u146 u147 u148 u149 u150 u151 u152 u153 u154 u155 u156 u157 u158 u159 u160 u161 u162 u163 u164 u165 u166 u167 u168 : Value) (wc : World)
    (o : Int) (P : Nat) (Hh : Hid (HeadRel bs f o P)) (hobd : 0 ≤ o ∧ o < 256) (Hknown : Hid (bs.length < P ∨ (1 ≤ o ∧ o ≤ 10))) (hP1 : 1 ≤ P) (S0 S1 S2 S3 : Nat) (HS : Hid (q2 f P ≤ bs.length → S0 = sess bs f P 0 ∧ S1 = sess bs f P 1 ∧ S2 = sess bs f P 2 ∧ S3 = sess bs f P 3)) (hq2 : Hid (P ≤ q2 f P)) (LE : Nat) (HLE : Hid (q3 f P ≤ bs.length → LE = leaseV bs f P)) (hq3 : Hid (q2 f P ≤ q3 f P)) (RE : Nat) (HRE : Hid (q4 f P ≤ bs.length → RE = revV bs f P)) (hq4 : Hid (q3 f P ≤ q4 f P)) (KL : Nat) (key : ByteArray) (HKL : Hid (q4 f P + 2 ≤ bs.length → KL = keyLen bs f P)) (P6 : Nat) (Hkey : Hid (P6 ≤ bs.length → key = keyS bs f P)) (HP6 : Hid (P6 = q4 f P + 2 + KL)) (OL : Nat) (old : Value) (HOL : Hid (P6 + 4 ≤ bs.length → OL = be bs P6 4)) (Hold : Hid ((o = 4 ∧ (P6 + 4 + OL ≤ bs.length → IsSl g (P6 + 4) OL old)) ∨ (o ≠ 4 ∧ old = .slice none 0 0))) (P8 : Nat) (HP8 : Hid (P8 = P6 + if o = 4 then 4 + OL else 0)) (TT : Nat) (HTT : Hid ((o = 5 ∧ (P8 + 4 ≤ bs.length → TT = be bs P8 4)) ∨ (o ≠ 5 ∧ TT = 0))) (P9 : Nat) (HP9 : Hid (P9 = P8 + if o = 5 then 4 else 0)) (OD : Nat) (HOD : Hid ((o = 8 ∧ (P9 + 8 ≤ bs.length → OD = be bs P9 8)) ∨ (o ≠ 8 ∧ OD = 0))) (P10 : Nat) (HP10 : Hid (P10 = P9 + if o = 8 then 8 else 0)) (FO : Nat) (HFO : Hid ((o = 9 ∧ (P10 + 8 ≤ bs.length → FO = be bs P10 8)) ∨ (o ≠ 9 ∧ FO = 0))) (P11 : Nat) (HP11 : Hid (P11 = P10 + if o = 9 then 8 else 0))
    (inv14 : Inv w C w.heap.size g bs P11 (cmdA (.int .u8 o) (.string key) (.slice none 0 0) old (.int .u64 S0) (.int .u64 S1) (.int .i64 (wrap64 S2)) (.int .i64 (wrap64 S3)) (.int .u64 LE) (.int .i64 TT) (.bool (flg f 8)) (.int .u64 RE) (.int .u64 OD) (.int .u64 FO) (.int .u64 0) (.int .i64 0)) wc) :
    Code.wp Tryf.prog (dropS 14 (Tryf.f12.body.getD .skip)) (bodyPost Tryf.prog Tryf.f12 fun e w' => IntoEnd w C g bs e w') ⟨#[.pointer (some ⟨C, 0, none⟩), .slice ao n n, undef, undef, .nilIface, .pointer (some ⟨w.heap.size, 0, none⟩), .int .u8 f, undef, u8, u9, u10, u11, u12, u13, u14, u15, u16, u17, u18, u19, u20, u21, u22, u23, u24, u25, u26, u27, u28, u29, u30, u31, u32, u33, u34, u35, u36, u37, u38, u39, u40, u41, u42, u43, u44, u45, u46, u47, u48, u49, u50, u51, u52, u53, u54, u55, u56, u57, u58, u59, u60, u61, u62, u63, u64, u65, u66, u67, u68, u69, u70, u71, u72, u73, u74, u75, u76, u77, u78, u79, u80, u81, u82, u83, u84, u85, u86, u87, u88, u89, u90, u91, u92, u93, u94, u95, u96, u97, u98, u99, u100, u101, u102, u103, u104, u105, u106, u107, u108, u109, u110, u111, u112, u113, u114, u115, u116, u117, u118, u119, u120, u121, u122, u123, u124, u125, u126, u127, u128, u129, u130, u131, u132, u133, u134, u135, u136, u137, u138, u139, u140, u141, u142, u143, u144, u145, u146, u147, u148, u149, u150, u151, u152, u153, u154, u155, u156, u157, u158, u159, u160, u161, u162, u163, u164, u165, u166, u167, u168], []⟩ wc := by
  conv => arg 2; whnf
  -- 'if c.Op == OpLate'
  have k0 := inv14.cmd.cell 0
  simp only [List.getElem?_toArray, List.getElem?_cons_zero] at k0
  go_upto_if 148 with fail
  go_cut [] (fun wx => ∃ FR CL : Nat, Hid ((o = 10 ∧ (P11 + 16 ≤ bs.length → FR = be bs P11 8 ∧ CL = be bs (P11 + 8) 8)) ∨ (o ≠ 10 ∧ FR = 0 ∧ CL = 0)) ∧ Inv w C w.heap.size g bs (P11 + if o = 10 then 16 else 0) (cmdA (.int .u8 o) (.string key) (.slice none 0 0) old (.int .u64 S0) (.int .u64 S1) (.int .i64 (wrap64 S2)) (.int .i64 (wrap64 S3)) (.int .u64 LE) (.int .i64 TT) (.bool (flg f 8)) (.int .u64 RE) (.int .u64 OD) (.int .u64 FO) (.int .u64 FR) (.int .i64 (wrap64 CL))) wx)
  case first =>
    have k14 := inv14.cmd.cell 14
    have k15 := inv14.cmd.cell 15
    simp only [List.getElem?_toArray, List.getElem?_cons_zero, List.getElem?_cons_succ] at k14 k15
    have fz := inv14.cmd.frozen
    by_cases ho : o = 10
    · have Ho : Hid (o = 10) := ho
      have ho' : (o == 10) = true := by simp [ho]
      clear ho
      go_wp2_with fail
      refine (number_any w.heap.size g (P11) bs hlen hgD 8 8 rfl (by omega) _ _ inv14.st inv14.bytes).mono ?_
      rintro e w2 ⟨FR, rfl, hFR, hvFR, stFR, hbFR⟩
      have inv15 := inv14.call stFR hbFR
      have HVFR : Hid ((P11) + 8 ≤ bs.length → FR = be bs (P11) 8) := hvFR
      clear hvFR stFR hbFR
      clear k0 k14 k15 fz
      have k14 := inv15.cmd.cell 14
      have k15 := inv15.cmd.cell 15
      simp only [List.getElem?_toArray, List.getElem?_cons_zero, List.getElem?_cons_succ] at k14 k15
      have fz := inv15.cmd.frozen
      have inv16 : Inv w C w.heap.size g bs (P11 + 8) (cmdA (.int .u8 o) (.string key) (.slice none 0 0) old (.int .u64 S0) (.int .u64 S1) (.int .i64 (wrap64 S2)) (.int .i64 (wrap64 S3)) (.int .u64 LE) (.int .i64 TT) (.bool (flg f 8)) (.int .u64 RE) (.int .u64 OD) (.int .u64 FO) (.int .u64 (FR : Int)) (.int .i64 0)) _ := inv15.set 14 (.int .u64 (FR : Int))
      go_wp2_with fail
      refine (number_any w.heap.size g (P11 + 8) bs hlen hgD 8 8 rfl (by omega) _ _ inv16.st inv16.bytes).mono ?_
      rintro e w3 ⟨CL, rfl, hCL, hvCL, stCL, hbCL⟩
      have inv17 := inv16.call stCL hbCL
      have HVCL : Hid ((P11 + 8) + 8 ≤ bs.length → CL = be bs (P11 + 8) 8) := hvCL
      clear hvCL stCL hbCL
      clear k14 k15 fz
      have k15 := inv17.cmd.cell 15
      simp only [List.getElem?_toArray, List.getElem?_cons_zero, List.getElem?_cons_succ] at k15
      have fz := inv17.cmd.frozen
      go_wp2
      go_meet
      case rel =>
        refine ⟨FR, CL, .inl ⟨Ho.out, fun h => ⟨HVFR.out (by omega), HVCL.out (by omega)⟩⟩, ?_⟩
        rw [if_pos Ho.out]
        exact inv17.set 15 _
    · have ho' : (o == 10) = false := by simpa using ho
      go_wp2
      go_meet
      case rel =>
        refine ⟨0, 0, .inr ⟨ho, rfl, rfl⟩, ?_⟩
        rw [if_neg ho, wrap64_small 0 (by omega)]
        exact inv14
  case rest =>
  obtain ⟨FR, CL, HFR, inv15⟩ := hcut
  clear inv14 k0
  obtain ⟨P12, hP12⟩ : ∃ P12, P12 = P11 + if o = 10 then 16 else 0 := ⟨_, rfl⟩
  rw [← hP12] at inv15
  have HP12 : Hid (P12 = P11 + if o = 10 then 16 else 0) := hP12
  clear hP12
  go_step
  exact into_15 F C g n bs ao w hF hlen hgD hCne f _ _ _ _ _ _ _ _ _ _ _ _ _ _ _ _ _ _ _ _ _ _ _ _ _ _ _ _ _ _ _ _ _ _ _ _ _ _ _ _ _ _ _ _ _ _ _ _ _ _ _ _ _ _ _ _ _ _ _ _ _ _ _ _ _ _ _ _ _ _ _ _ _ _ _ _ _ _ _ _ _ _ _ _ _ _ _ _ _ _ _ _ _ _ _ _ _ _ _ _ _ _ _ _ _ _ _ _ _ _ _ _ _ _ _ _ _ _ _ _ _ _ _ _ _ _ _ _ _ _ _ _ _ _ _ _ _ _ _ _ _ _ _ _ _ _ _ _ _ _ _ _ _ _ _ _ _ _ _ _ _ _ o P Hh hobd Hknown hP1 S0 S1 S2 S3 HS hq2 LE HLE hq3 RE HRE hq4 KL key HKL P6 Hkey HP6 OL old HOL Hold P8 HP8 TT HTT P9 HP9 OD HOD P10 HP10 FO HFO P11 HP11 FR CL HFR P12 HP12 inv15

set_option maxHeartbeats 4000000 in
set_option maxRecDepth 100000 in
theorem into_13 (F : Interp) (C g n : Nat) (bs : List UInt8) (ao : Option Addr) (w : World) (hF : F.answers w.tape) (hlen : bs.length ≤ 1048576) (hgD : g < w.heap.size) (hCne : ¬ w.heap.size = C) (f : Int) (u8 u9 u10 u11 u12 u13 u14 u15 u16 u17 u18 u19 u20 u21 u22 u23 u24 u25 u26 u27 u28 u29 u30 u31 u32 u33 u34 u35 u36 u37 u38 u39 u40 u41 u42 u43 u44 u45 u46 u47 u48 u49 u50 u51 u52 u53 u54 u55 u56 u57 u58 u59 u60 u61 u62 u63 u64 u65 u66 u67 u68 u69 u70 u71 u72 u73 u74 u75 u76 u77 u78 u79 u80 u81 u82 u83 u84 u85 u86 u87 u88 u89 u90 u91 u92 u93 u94 u95 u96 u97 u98 u99 u100 u101 u102 u103 u104 u105 u106 u107 u108 u109 u110 u111 u112 u113 u114 u115 u116 u117 u118 u119 u120 u121 u122 u123 u124 u125 u126 u127 u128 u129 u130 u131 u132 u133 u134 u135 u136 u137 u138 u139 u140 u141 u142 u143 u144 u145 u146 u147 u148 u149 u150 u151 u152 u153 u154 u155 u156 u157 u158 u159 u160 u161 u162 u163 u164 u165 u166 u167 u168 : Value) (wc : World)
    (o : Int) (P : Nat) (Hh : Hid (HeadRel bs f o P)) (hobd : 0 ≤ o ∧ o < 256) (Hknown : Hid (bs.length < P ∨ (1 ≤ o ∧ o ≤ 10))) (hP1 : 1 ≤ P) (S0 S1 S2 S3 : Nat) (HS : Hid (q2 f P ≤ bs.length → S0 = sess bs f P 0 ∧ S1 = sess bs f P 1 ∧ S2 = sess bs f P 2 ∧ S3 = sess bs f P 3)) (hq2 : Hid (P ≤ q2 f P)) (LE : Nat) (HLE : Hid (q3 f P ≤ bs.length → LE = leaseV bs f P)) (hq3 : Hid (q2 f P ≤ q3 f P)) (RE : Nat) (HRE : Hid (q4 f P ≤ bs.length → RE = revV bs f P)) (hq4 : Hid (q3 f P ≤ q4 f P)) (KL : Nat) (key : ByteArray) (HKL : Hid (q4 f P + 2 ≤ bs.length → KL = keyLen bs f P)) (P6 : Nat) (Hkey : Hid (P6 ≤ bs.length → key = keyS bs f P)) (HP6 : Hid (P6 = q4 f P + 2 + KL)) (OL : Nat) (old : Value) (HOL : Hid (P6 + 4 ≤ bs.length → OL = be bs P6 4)) (Hold : Hid ((o = 4 ∧ (P6 + 4 + OL ≤ bs.length → IsSl g (P6 + 4) OL old)) ∨ (o ≠ 4 ∧ old = .slice none 0 0))) (P8 : Nat) (HP8 : Hid (P8 = P6 + if o = 4 then 4 + OL else 0)) (TT : Nat) (HTT : Hid ((o = 5 ∧ (P8 + 4 ≤ bs.length → TT = be bs P8 4)) ∨ (o ≠ 5 ∧ TT = 0))) (P9 : Nat) (HP9 : Hid (P9 = P8 + if o = 5 then 4 else 0)) (OD : Nat) (HOD : Hid ((o = 8 ∧ (P9 + 8 ≤ bs.length → OD = be bs P9 8)) ∨ (o ≠ 8 ∧ OD = 0))) (P10 : Nat) (HP10 : Hid (P10 = P9 + if o = 8 then 8 else 0))
    (inv13 : Inv w C w.heap.size g bs P10 (cmdA (.int .u8 o) (.string key) (.slice none 0 0) old (.int .u64 S0) (.int .u64 S1) (.int .i64 (wrap64 S2)) (.int .i64 (wrap64 S3)) (.int .u64 LE) (.int .i64 TT) (.bool (flg f 8)) (.int .u64 RE) (.int .u64 OD) (.int .u64 0) (.int .u64 0) (.int .i64 0)) wc) :
    Code.wp Tryf.prog (dropS 13 (Tryf.f12.body.getD .skip)) (bodyPost Tryf.prog Tryf.f12 fun e w' => IntoEnd w C g bs e w') ⟨#[.pointer (some ⟨C, 0, none⟩), .slice ao n n, undef, undef, .nilIface, .pointer (some ⟨w.heap.size, 0, none⟩), .int .u8 f, undef, u8, u9, u10, u11, u12, u13, u14, u15, u16, u17, u18, u19, u20, u21, u22, u23, u24, u25, u26, u27, u28, u29, u30, u31, u32, u33, u34, u35, u36, u37, u38, u39, u40, u41, u42, u43, u44, u45, u46, u47, u48, u49, u50, u51, u52, u53, u54, u55, u56, u57, u58, u59, u60, u61, u62, u63, u64, u65, u66, u67, u68, u69, u70, u71, u72, u73, u74, u75, u76, u77, u78, u79, u80, u81, u82, u83, u84, u85, u86, u87, u88, u89, u90, u91, u92, u93, u94, u95, u96, u97, u98, u99, u100, u101, u102, u103, u104, u105, u106, u107, u108, u109, u110, u111, u112, u113, u114, u115, u116, u117, u118, u119, u120, u121, u122, u123, u124, u125, u126, u127, u128, u129, u130, u131, u132, u133, u134, u135, u136, u137, u138, u139, u140, u141, u142, u143, u144, u145, u146, u147, u148, u149, u150, u151, u152, u153, u154, u155, u156, u157, u158, u159, u160, u161, u162, u163, u164, u165, u166, u167, u168], []⟩ wc := by
  conv => arg 2; whnf
  -- 'if c.Op == OpFormat'
  have k0 := inv13.cmd.cell 0
  simp only [List.getElem?_toArray, List.getElem?_cons_zero] at k0
  go_upto_if 139 with fail
  go_cut [] (fun wx => ∃ FO : Nat, Hid ((o = 9 ∧ (P10 + 8 ≤ bs.length → FO = be bs P10 8)) ∨ (o ≠ 9 ∧ FO = 0)) ∧ Inv w C w.heap.size g bs (P10 + if o = 9 then 8 else 0) (cmdA (.int .u8 o) (.string key) (.slice none 0 0) old (.int .u64 S0) (.int .u64 S1) (.int .i64 (wrap64 S2)) (.int .i64 (wrap64 S3)) (.int .u64 LE) (.int .i64 TT) (.bool (flg f 8)) (.int .u64 RE) (.int .u64 OD) (.int .u64 FO) (.int .u64 0) (.int .i64 0)) wx)
  case first =>
    have k13 := inv13.cmd.cell 13
    simp only [List.getElem?_toArray, List.getElem?_cons_zero, List.getElem?_cons_succ] at k13
    have fz := inv13.cmd.frozen
    by_cases ho : o = 9
    · have Ho : Hid (o = 9) := ho
      have ho' : (o == 9) = true := by simp [ho]
      clear ho
      go_wp2_with fail
      refine (number_any w.heap.size g (P10) bs hlen hgD 8 8 rfl (by omega) _ _ inv13.st inv13.bytes).mono ?_
      rintro e w2 ⟨FO, rfl, hFO, hvFO, stFO, hbFO⟩
      have inv14 := inv13.call stFO hbFO
      have HVFO : Hid ((P10) + 8 ≤ bs.length → FO = be bs (P10) 8) := hvFO
      clear hvFO stFO hbFO
      clear k0 k13 fz
      have k13 := inv14.cmd.cell 13
      simp only [List.getElem?_toArray, List.getElem?_cons_zero, List.getElem?_cons_succ] at k13
      have fz := inv14.cmd.frozen
      go_wp2
      go_meet
      case rel => exact ⟨FO, .inl ⟨Ho.out, HVFO.out⟩, by rw [if_pos Ho.out]; exact inv14.set 13 _⟩
    · have ho' : (o == 9) = false := by simpa using ho
      go_wp2
      go_meet
      case rel => exact ⟨0, .inr ⟨ho, rfl⟩, by rw [if_neg ho]; exact inv13⟩
  case rest =>
  obtain ⟨FO, HFO, inv14⟩ := hcut
  clear inv13 k0
  obtain ⟨P11, hP11⟩ : ∃ P11, P11 = P10 + if o = 9 then 8 else 0 := ⟨_, rfl⟩
  rw [← hP11] at inv14
  have HP11 : Hid (P11 = P10 + if o = 9 then 8 else 0) := hP11
  clear hP11
  go_step
  exact into_14 F C g n bs ao w hF hlen hgD hCne f _ _ _ _ _ _ _ _ _ _ _ _ _ _ _ _ _ _ _ _ _ _ _ _ _ _ _ _ _ _ _ _ _ _ _ _ _ _ _ _ _ _ _ _ _ _ _ _ _ _ _ _ _ _ _ _ _ _ _ _ _ _ _ _ _ _ _ _ _ _ _ _ _ _ _ _ _ _ _ _ _ _ _ _ _ _ _ _ _ _ _ _ _ _ _ _ _ _ _ _ _ _ _ _ _ _ _ _ _ _ _ _ _ _ _ _ _ _ _ _ _ _ _ _ _ _ _ _ _ _ _ _ _ _ _ _ _ _ _ _ _ _ _ _ _ _ _ _ _ _ _ _ _ _ _ _ _ _ _ _ _ _ o P Hh hobd Hknown hP1 S0 S1 S2 S3 HS hq2 LE HLE hq3 RE HRE hq4 KL key HKL P6 Hkey HP6 OL old HOL Hold P8 HP8 TT HTT P9 HP9 OD HOD P10 HP10 FO HFO P11 HP11 inv14

set_option maxHeartbeats 4000000 in
set_option maxRecDepth 100000 in
theorem into_12 (F : Interp) (C g n : Nat) (bs : List UInt8) (ao : Option Addr) (w : World) (hF : F.answers w.tape) (hlen : bs.length ≤ 1048576) (hgD : g < w.heap.size) (hCne : ¬ w.heap.size = C) (f : Int) (u8 u9 u10 u11 u12 u13 u14 u15 u16 u17 u18 u19 u20 u21 u22 u23 u24 u25 u26 u27 u28 u29 u30 u31 u32 u33 u34 u35 u36 u37 u38 u39 u40 u41 u42 u43 u44 u45 u46 u47 u48 u49 u50 u51 u52 u53 u54 u55 u56 u57 u58 u59 u60 u61 u62 u63 u64 u65 u66 u67 u68 u69 u70 u71 u72 u73 u74 u75 u76 u77 u78 u79 u80 u81 u82 u83 u84 u85 u86 u87 u88 u89 u90 u91 u92 u93 u94 u95 u96 u97 u98 u99 u100 u101 u102 u103 u104 u105 u106 u107 u108 u109 u110 u111 u112 u113 u114 u115 u116 u117 u118 u119 u120 u121 u122 u123 u124 u125 u126 u127 u128 u129 u130 u131 u132 u133 u134 u135 u136 u137 u138 u139 u140 u141 u142 u143 u144 u145 u146 u147 u148 u149 u150 u151 u152 u153 u154 u155 u156 u157 u158 u159 u160 u161 u162 u163 u164 u165 u166 u167 u168 : Value) (wc : World)
    (o : Int) (P : Nat) (Hh : Hid (HeadRel bs f o P)) (hobd : 0 ≤ o ∧ o < 256) (Hknown : Hid (bs.length < P ∨ (1 ≤ o ∧ o ≤ 10))) (hP1 : 1 ≤ P) (S0 S1 S2 S3 : Nat) (HS : Hid (q2 f P ≤ bs.length → S0 = sess bs f P 0 ∧ S1 = sess bs f P 1 ∧ S2 = sess bs f P 2 ∧ S3 = sess bs f P 3)) (hq2 : Hid (P ≤ q2 f P)) (LE : Nat) (HLE : Hid (q3 f P ≤ bs.length → LE = leaseV bs f P)) (hq3 : Hid (q2 f P ≤ q3 f P)) (RE : Nat) (HRE : Hid (q4 f P ≤ bs.length → RE = revV bs f P)) (hq4 : Hid (q3 f P ≤ q4 f P)) (KL : Nat) (key : ByteArray) (HKL : Hid (q4 f P + 2 ≤ bs.length → KL = keyLen bs f P)) (P6 : Nat) (Hkey : Hid (P6 ≤ bs.length → key = keyS bs f P)) (HP6 : Hid (P6 = q4 f P + 2 + KL)) (OL : Nat) (old : Value) (HOL : Hid (P6 + 4 ≤ bs.length → OL = be bs P6 4)) (Hold : Hid ((o = 4 ∧ (P6 + 4 + OL ≤ bs.length → IsSl g (P6 + 4) OL old)) ∨ (o ≠ 4 ∧ old = .slice none 0 0))) (P8 : Nat) (HP8 : Hid (P8 = P6 + if o = 4 then 4 + OL else 0)) (TT : Nat) (HTT : Hid ((o = 5 ∧ (P8 + 4 ≤ bs.length → TT = be bs P8 4)) ∨ (o ≠ 5 ∧ TT = 0))) (P9 : Nat) (HP9 : Hid (P9 = P8 + if o = 5 then 4 else 0))
    (inv12 : Inv w C w.heap.size g bs P9 (cmdA (.int .u8 o) (.string key) (.slice none 0 0) old (.int .u64 S0) (.int .u64 S1) (.int .i64 (wrap64 S2)) (.int .i64 (wrap64 S3)) (.int .u64 LE) (.int .i64 TT) (.bool (flg f 8)) (.int .u64 RE) (.int .u64 0) (.int .u64 0) (.int .u64 0) (.int .i64 0)) wc) :
    Code.wp Tryf.prog (dropS 12 (Tryf.f12.body.getD .skip)) (bodyPost Tryf.prog Tryf.f12 fun e w' => IntoEnd w C g bs e w') ⟨#[.pointer (some ⟨C, 0, none⟩), .slice ao n n, undef, undef, .nilIface, .pointer (some ⟨w.heap.size, 0, none⟩), .int .u8 f, undef, u8, u9, u10, u11, u12, u13, u14, u15, u16, u17, u18, u19, u20, u21, u22, u23, u24, u25, u26, u27, u28, u29, u30, u31, u32, u33, u34, u35, u36, u37, u38, u39, u40, u41, u42, u43, u44, u45, u46, u47, u48, u49, u50, u51, u52, u53, u54, u55, u56, u57, u58, u59, u60, u61, u62, u63, u64, u65, u66, u67, u68, u69, u70, u71, u72, u73, u74, u75, u76, u77, u78, u79, u80, u81, u82, u83, u84, u85, u86, u87, u88, u89, u90, u91, u92, u93, u94, u95, u96, u97, u98, u99, u100, u101, u102, u103, u104, u105, u106, u107, u108, u109, u110, u111, u112, u113, u114, u115, u116, u117, u118, u119, u120, u121, u122, u123, u124, u125, u126, u127, u128, u129, u130, u131, u132, u133, u134, u135, u136, u137, u138, u139, u140, u141, u142, u143, u144, u145, u146, u147, u148, u149, u150, u151, u152, u153, u154, u155, u156, u157, u158, u159, u160, u161, u162, u163, u164, u165, u166, u167, u168], []⟩ wc := by
  conv => arg 2; whnf
  -- 'if c.Op == OpCompact'
  have k0 := inv12.cmd.cell 0
  simp only [List.getElem?_toArray, List.getElem?_cons_zero] at k0
  go_upto_if 130 with fail
  go_cut [] (fun wx => ∃ OD : Nat, Hid ((o = 8 ∧ (P9 + 8 ≤ bs.length → OD = be bs P9 8)) ∨ (o ≠ 8 ∧ OD = 0)) ∧ Inv w C w.heap.size g bs (P9 + if o = 8 then 8 else 0) (cmdA (.int .u8 o) (.string key) (.slice none 0 0) old (.int .u64 S0) (.int .u64 S1) (.int .i64 (wrap64 S2)) (.int .i64 (wrap64 S3)) (.int .u64 LE) (.int .i64 TT) (.bool (flg f 8)) (.int .u64 RE) (.int .u64 OD) (.int .u64 0) (.int .u64 0) (.int .i64 0)) wx)
  case first =>
    have k12 := inv12.cmd.cell 12
    simp only [List.getElem?_toArray, List.getElem?_cons_zero, List.getElem?_cons_succ] at k12
    have fz := inv12.cmd.frozen
    by_cases ho : o = 8
    · have Ho : Hid (o = 8) := ho
      have ho' : (o == 8) = true := by simp [ho]
      clear ho
      go_wp2_with fail
      refine (number_any w.heap.size g (P9) bs hlen hgD 8 8 rfl (by omega) _ _ inv12.st inv12.bytes).mono ?_
      rintro e w2 ⟨OD, rfl, hOD, hvOD, stOD, hbOD⟩
      have inv13 := inv12.call stOD hbOD
      have HVOD : Hid ((P9) + 8 ≤ bs.length → OD = be bs (P9) 8) := hvOD
      clear hvOD stOD hbOD
      clear k0 k12 fz
      have k12 := inv13.cmd.cell 12
      simp only [List.getElem?_toArray, List.getElem?_cons_zero, List.getElem?_cons_succ] at k12
      have fz := inv13.cmd.frozen
      go_wp2
      go_meet
      case rel => exact ⟨OD, .inl ⟨Ho.out, HVOD.out⟩, by rw [if_pos Ho.out]; exact inv13.set 12 _⟩
    · have ho' : (o == 8) = false := by simpa using ho
      go_wp2
      go_meet
      case rel => exact ⟨0, .inr ⟨ho, rfl⟩, by rw [if_neg ho]; exact inv12⟩
  case rest =>
  obtain ⟨OD, HOD, inv13⟩ := hcut
  clear inv12 k0
  obtain ⟨P10, hP10⟩ : ∃ P10, P10 = P9 + if o = 8 then 8 else 0 := ⟨_, rfl⟩
  rw [← hP10] at inv13
  have HP10 : Hid (P10 = P9 + if o = 8 then 8 else 0) := hP10
  clear hP10
  go_step
  exact into_13 F C g n bs ao w hF hlen hgD hCne f _ _ _ _ _ _ _ _ _ _ _ _ _ _ _ _ _ _ _ _ _ _ _ _ _ _ _ _ _ _ _ _ _ _ _ _ _ _ _ _ _ _ _ _ _ _ _ _ _ _ _ _ _ _ _ _ _ _ _ _ _ _ _ _ _ _ _ _ _ _ _ _ _ _ _ _ _ _ _ _ _ _ _ _ _ _ _ _ _ _ _ _ _ _ _ _ _ _ _ _ _ _ _ _ _ _ _ _ _ _ _ _ _ _ _ _ _ _ _ _ _ _ _ _ _ _ _ _ _ _ _ _ _ _ _ _ _ _ _ _ _ _ _ _ _ _ _ _ _ _ _ _ _ _ _ _ _ _ _ _ _ _ o P Hh hobd Hknown hP1 S0 S1 S2 S3 HS hq2 LE HLE hq3 RE HRE hq4 KL key HKL P6 Hkey HP6 OL old HOL Hold P8 HP8 TT HTT P9 HP9 OD HOD P10 HP10 inv13

set_option maxHeartbeats 4000000 in
set_option maxRecDepth 100000 in
theorem into_11 (F : Interp) (C g n : Nat) (bs : List UInt8) (ao : Option Addr) (w : World) (hF : F.answers w.tape) (hlen : bs.length ≤ 1048576) (hgD : g < w.heap.size) (hCne : ¬ w.heap.size = C) (f : Int) (u8 u9 u10 u11 u12 u13 u14 u15 u16 u17 u18 u19 u20 u21 u22 u23 u24 u25 u26 u27 u28 u29 u30 u31 u32 u33 u34 u35 u36 u37 u38 u39 u40 u41 u42 u43 u44 u45 u46 u47 u48 u49 u50 u51 u52 u53 u54 u55 u56 u57 u58 u59 u60 u61 u62 u63 u64 u65 u66 u67 u68 u69 u70 u71 u72 u73 u74 u75 u76 u77 u78 u79 u80 u81 u82 u83 u84 u85 u86 u87 u88 u89 u90 u91 u92 u93 u94 u95 u96 u97 u98 u99 u100 u101 u102 u103 u104 u105 u106 u107 u108 u109 u110 u111 u112 u113 u114 u115 u116 u117 u118 u119 u120 u121 u122 u123 u124 u125 u126 u127 u128 u129 u130 u131 u132 u133 u134 u135 u136 u137 u138 u139 u140 u141 u142 u143 u144 u145 u146 u147 u148 u149 u150 u151 u152 u153 u154 u155 u156 u157 u158 u159 u160 u161 u162 u163 u164 u165 u166 u167 u168 : Value) (wc : World)
    (o : Int) (P : Nat) (Hh : Hid (HeadRel bs f o P)) (hobd : 0 ≤ o ∧ o < 256) (Hknown : Hid (bs.length < P ∨ (1 ≤ o ∧ o ≤ 10))) (hP1 : 1 ≤ P) (S0 S1 S2 S3 : Nat) (HS : Hid (q2 f P ≤ bs.length → S0 = sess bs f P 0 ∧ S1 = sess bs f P 1 ∧ S2 = sess bs f P 2 ∧ S3 = sess bs f P 3)) (hq2 : Hid (P ≤ q2 f P)) (LE : Nat) (HLE : Hid (q3 f P ≤ bs.length → LE = leaseV bs f P)) (hq3 : Hid (q2 f P ≤ q3 f P)) (RE : Nat) (HRE : Hid (q4 f P ≤ bs.length → RE = revV bs f P)) (hq4 : Hid (q3 f P ≤ q4 f P)) (KL : Nat) (key : ByteArray) (HKL : Hid (q4 f P + 2 ≤ bs.length → KL = keyLen bs f P)) (P6 : Nat) (Hkey : Hid (P6 ≤ bs.length → key = keyS bs f P)) (HP6 : Hid (P6 = q4 f P + 2 + KL)) (OL : Nat) (old : Value) (HOL : Hid (P6 + 4 ≤ bs.length → OL = be bs P6 4)) (Hold : Hid ((o = 4 ∧ (P6 + 4 + OL ≤ bs.length → IsSl g (P6 + 4) OL old)) ∨ (o ≠ 4 ∧ old = .slice none 0 0))) (P8 : Nat) (HP8 : Hid (P8 = P6 + if o = 4 then 4 + OL else 0))
    (inv11 : Inv w C w.heap.size g bs P8 (cmdA (.int .u8 o) (.string key) (.slice none 0 0) old (.int .u64 S0) (.int .u64 S1) (.int .i64 (wrap64 S2)) (.int .i64 (wrap64 S3)) (.int .u64 LE) (.int .i64 0) (.bool (flg f 8)) (.int .u64 RE) (.int .u64 0) (.int .u64 0) (.int .u64 0) (.int .i64 0)) wc) :
    Code.wp Tryf.prog (dropS 11 (Tryf.f12.body.getD .skip)) (bodyPost Tryf.prog Tryf.f12 fun e w' => IntoEnd w C g bs e w') ⟨#[.pointer (some ⟨C, 0, none⟩), .slice ao n n, undef, undef, .nilIface, .pointer (some ⟨w.heap.size, 0, none⟩), .int .u8 f, undef, u8, u9, u10, u11, u12, u13, u14, u15, u16, u17, u18, u19, u20, u21, u22, u23, u24, u25, u26, u27, u28, u29, u30, u31, u32, u33, u34, u35, u36, u37, u38, u39, u40, u41, u42, u43, u44, u45, u46, u47, u48, u49, u50, u51, u52, u53, u54, u55, u56, u57, u58, u59, u60, u61, u62, u63, u64, u65, u66, u67, u68, u69, u70, u71, u72, u73, u74, u75, u76, u77, u78, u79, u80, u81, u82, u83, u84, u85, u86, u87, u88, u89, u90, u91, u92, u93, u94, u95, u96, u97, u98, u99, u100, u101, u102, u103, u104, u105, u106, u107, u108, u109, u110, u111, u112, u113, u114, u115, u116, u117, u118, u119, u120, u121, u122, u123, u124, u125, u126, u127, u128, u129, u130, u131, u132, u133, u134, u135, u136, u137, u138, u139, u140, u141, u142, u143, u144, u145, u146, u147, u148, u149, u150, u151, u152, u153, u154, u155, u156, u157, u158, u159, u160, u161, u162, u163, u164, u165, u166, u167, u168], []⟩ wc := by
  conv => arg 2; whnf
  -- 'if c.Op == OpGrant'
  have k0 := inv11.cmd.cell 0
  simp only [List.getElem?_toArray, List.getElem?_cons_zero] at k0
  go_upto_if 120 with fail
  go_cut [] (fun wx => ∃ TT : Nat, Hid ((o = 5 ∧ (P8 + 4 ≤ bs.length → TT = be bs P8 4)) ∨ (o ≠ 5 ∧ TT = 0)) ∧ Inv w C w.heap.size g bs (P8 + if o = 5 then 4 else 0) (cmdA (.int .u8 o) (.string key) (.slice none 0 0) old (.int .u64 S0) (.int .u64 S1) (.int .i64 (wrap64 S2)) (.int .i64 (wrap64 S3)) (.int .u64 LE) (.int .i64 TT) (.bool (flg f 8)) (.int .u64 RE) (.int .u64 0) (.int .u64 0) (.int .u64 0) (.int .i64 0)) wx)
  case first =>
    have k9 := inv11.cmd.cell 9
    simp only [List.getElem?_toArray, List.getElem?_cons_zero, List.getElem?_cons_succ] at k9
    have fz := inv11.cmd.frozen
    by_cases ho : o = 5
    · have Ho : Hid (o = 5) := ho
      have ho' : (o == 5) = true := by simp [ho]
      clear ho
      go_wp2_with fail
      refine (number_any w.heap.size g (P8) bs hlen hgD 4 4 rfl (by omega) _ _ inv11.st inv11.bytes).mono ?_
      rintro e w2 ⟨TT, rfl, hTT, hvTT, stTT, hbTT⟩
      have inv12 := inv11.call stTT hbTT
      have HVTT : Hid ((P8) + 4 ≤ bs.length → TT = be bs (P8) 4) := hvTT
      clear hvTT stTT hbTT
      have hTT' : TT < 4294967296 := hTT
      clear hTT k0 k9 fz
      have k9 := inv12.cmd.cell 9
      simp only [List.getElem?_toArray, List.getElem?_cons_zero, List.getElem?_cons_succ] at k9
      have fz := inv12.cmd.frozen
      go_wp2
      go_meet
      case rel => exact ⟨TT, .inl ⟨Ho.out, HVTT.out⟩, by rw [if_pos Ho.out]; exact inv12.set 9 _⟩
    · have ho' : (o == 5) = false := by simpa using ho
      go_wp2
      go_meet
      case rel => exact ⟨0, .inr ⟨ho, rfl⟩, by rw [if_neg ho]; exact inv11⟩
  case rest =>
  obtain ⟨TT, HTT, inv12⟩ := hcut
  clear inv11 k0
  obtain ⟨P9, hP9⟩ : ∃ P9, P9 = P8 + if o = 5 then 4 else 0 := ⟨_, rfl⟩
  rw [← hP9] at inv12
  have HP9 : Hid (P9 = P8 + if o = 5 then 4 else 0) := hP9
  clear hP9
  go_step
  exact into_12 F C g n bs ao w hF hlen hgD hCne f _ _ _ _ _ _ _ _ _ _ _ _ _ _ _ _ _ _ _ _ _ _ _ _ _ _ _ _ _ _ _ _ _ _ _ _ _ _ _ _ _ _ _ _ _ _ _ _ _ _ _ _ _ _ _ _ _ _ _ _ _ _ _ _ _ _ _ _ _ _ _ _ _ _ _ _ _ _ _ _ _ _ _ _ _ _ _ _ _ _ _ _ _ _ _ _ _ _ _ _ _ _ _ _ _ _ _ _ _ _ _ _ _ _ _ _ _ _ _ _ _ _ _ _ _ _ _ _ _ _ _ _ _ _ _ _ _ _ _ _ _ _ _ _ _ _ _ _ _ _ _ _ _ _ _ _ _ _ _ _ _ _ o P Hh hobd Hknown hP1 S0 S1 S2 S3 HS hq2 LE HLE hq3 RE HRE hq4 KL key HKL P6 Hkey HP6 OL old HOL Hold P8 HP8 TT HTT P9 HP9 inv12

set_option maxHeartbeats 4000000 in
set_option maxRecDepth 100000 in
theorem into_10 (F : Interp) (C g n : Nat) (bs : List UInt8) (ao : Option Addr) (w : World) (hF : F.answers w.tape) (hlen : bs.length ≤ 1048576) (hgD : g < w.heap.size) (hCne : ¬ w.heap.size = C) (f : Int) (u8 u9 u10 u11 u12 u13 u14 u15 u16 u17 u18 u19 u20 u21 u22 u23 u24 u25 u26 u27 u28 u29 u30 u31 u32 u33 u34 u35 u36 u37 u38 u39 u40 u41 u42 u43 u44 u45 u46 u47 u48 u49 u50 u51 u52 u53 u54 u55 u56 u57 u58 u59 u60 u61 u62 u63 u64 u65 u66 u67 u68 u69 u70 u71 u72 u73 u74 u75 u76 u77 u78 u79 u80 u81 u82 u83 u84 u85 u86 u87 u88 u89 u90 u91 u92 u93 u94 u95 u96 u97 u98 u99 u100 u101 u102 u103 u104 u105 u106 u107 u108 u109 u110 u111 u112 u113 u114 u115 u116 u117 u118 u119 u120 u121 u122 u123 u124 u125 u126 u127 u128 u129 u130 u131 u132 u133 u134 u135 u136 u137 u138 u139 u140 u141 u142 u143 u144 u145 u146 u147 u148 u149 u150 u151 u152 u153 u154 u155 u156 u157 u158 u159 u160 u161 u162 u163 u164 u165 u166 u167 u168 : Value) (wc : World)
    (o : Int) (P : Nat) (Hh : Hid (HeadRel bs f o P)) (hobd : 0 ≤ o ∧ o < 256) (Hknown : Hid (bs.length < P ∨ (1 ≤ o ∧ o ≤ 10))) (hP1 : 1 ≤ P) (S0 S1 S2 S3 : Nat) (HS : Hid (q2 f P ≤ bs.length → S0 = sess bs f P 0 ∧ S1 = sess bs f P 1 ∧ S2 = sess bs f P 2 ∧ S3 = sess bs f P 3)) (hq2 : Hid (P ≤ q2 f P)) (LE : Nat) (HLE : Hid (q3 f P ≤ bs.length → LE = leaseV bs f P)) (hq3 : Hid (q2 f P ≤ q3 f P)) (RE : Nat) (HRE : Hid (q4 f P ≤ bs.length → RE = revV bs f P)) (hq4 : Hid (q3 f P ≤ q4 f P)) (KL : Nat) (key : ByteArray) (HKL : Hid (q4 f P + 2 ≤ bs.length → KL = keyLen bs f P)) (P6 : Nat) (Hkey : Hid (P6 ≤ bs.length → key = keyS bs f P)) (HP6 : Hid (P6 = q4 f P + 2 + KL))
    (inv10 : Inv w C w.heap.size g bs P6 (cmdA (.int .u8 o) (.string key) (.slice none 0 0) (.slice none 0 0) (.int .u64 S0) (.int .u64 S1) (.int .i64 (wrap64 S2)) (.int .i64 (wrap64 S3)) (.int .u64 LE) (.int .i64 0) (.bool (flg f 8)) (.int .u64 RE) (.int .u64 0) (.int .u64 0) (.int .u64 0) (.int .i64 0)) wc) :
    Code.wp Tryf.prog (dropS 10 (Tryf.f12.body.getD .skip)) (bodyPost Tryf.prog Tryf.f12 fun e w' => IntoEnd w C g bs e w') ⟨#[.pointer (some ⟨C, 0, none⟩), .slice ao n n, undef, undef, .nilIface, .pointer (some ⟨w.heap.size, 0, none⟩), .int .u8 f, undef, u8, u9, u10, u11, u12, u13, u14, u15, u16, u17, u18, u19, u20, u21, u22, u23, u24, u25, u26, u27, u28, u29, u30, u31, u32, u33, u34, u35, u36, u37, u38, u39, u40, u41, u42, u43, u44, u45, u46, u47, u48, u49, u50, u51, u52, u53, u54, u55, u56, u57, u58, u59, u60, u61, u62, u63, u64, u65, u66, u67, u68, u69, u70, u71, u72, u73, u74, u75, u76, u77, u78, u79, u80, u81, u82, u83, u84, u85, u86, u87, u88, u89, u90, u91, u92, u93, u94, u95, u96, u97, u98, u99, u100, u101, u102, u103, u104, u105, u106, u107, u108, u109, u110, u111, u112, u113, u114, u115, u116, u117, u118, u119, u120, u121, u122, u123, u124, u125, u126, u127, u128, u129, u130, u131, u132, u133, u134, u135, u136, u137, u138, u139, u140, u141, u142, u143, u144, u145, u146, u147, u148, u149, u150, u151, u152, u153, u154, u155, u156, u157, u158, u159, u160, u161, u162, u163, u164, u165, u166, u167, u168], []⟩ wc := by
  conv => arg 2; whnf
  -- 'if c.Op == OpCAS'
  have k0 := inv10.cmd.cell 0
  simp only [List.getElem?_toArray, List.getElem?_cons_zero] at k0
  go_upto_if 109 with fail
  go_cut [] (fun wx => ∃ (OL : Nat) (old : Value), Hid (P6 + 4 ≤ bs.length → OL = be bs P6 4) ∧ Hid ((o = 4 ∧ (P6 + 4 + OL ≤ bs.length → IsSl g (P6 + 4) OL old)) ∨ (o ≠ 4 ∧ old = .slice none 0 0)) ∧ Inv w C w.heap.size g bs (P6 + if o = 4 then 4 + OL else 0) (cmdA (.int .u8 o) (.string key) (.slice none 0 0) old (.int .u64 S0) (.int .u64 S1) (.int .i64 (wrap64 S2)) (.int .i64 (wrap64 S3)) (.int .u64 LE) (.int .i64 0) (.bool (flg f 8)) (.int .u64 RE) (.int .u64 0) (.int .u64 0) (.int .u64 0) (.int .i64 0)) wx)
  case first =>
    have k3 := inv10.cmd.cell 3
    simp only [List.getElem?_toArray, List.getElem?_cons_zero, List.getElem?_cons_succ] at k3
    have fz := inv10.cmd.frozen
    by_cases ho : o = 4
    · have Ho : Hid (o = 4) := ho
      have ho' : (o == 4) = true := by simp [ho]
      clear ho
      go_wp2_with fail
      refine (number_any w.heap.size g (P6) bs hlen hgD 4 4 rfl (by omega) _ _ inv10.st inv10.bytes).mono ?_
      rintro e w2 ⟨OL, rfl, hOL, hvOL, stOL, hbOL⟩
      have inv11 := inv10.call stOL hbOL
      have HVOL : Hid ((P6) + 4 ≤ bs.length → OL = be bs (P6) 4) := hvOL
      clear hvOL stOL hbOL
      have hOL' : OL < 4294967296 := hOL
      clear hOL
      have hpos : bs.length < P6 + 4 ∨ 1 ≤ bs.length := by omega
      go_wp2_with fail
      refine (take_any w.heap.size g (P6 + 4) bs hlen OL OL (by omega) rfl (by omega) _ _ inv11.st).mono ?_
      rintro e w3 ⟨v, rfl, hv, stv, hbv⟩
      obtain ⟨vo, vm, vc, rfl⟩ := hv.slice
      have inv12 := inv11.call stv hbv
      have Hv : Hid (Took g bs (P6 + 4) OL (.slice vo vm vc)) := hv
      clear stv hbv k0 k3 fz hv
      have k3 := inv12.cmd.cell 3
      simp only [List.getElem?_toArray, List.getElem?_cons_zero, List.getElem?_cons_succ] at k3
      have fz := inv12.cmd.frozen
      go_wp2
      go_meet
      case rel =>
        refine ⟨OL, .slice vo vm vc, HVOL.out, .inl ⟨Ho.out, fun h => ?_⟩, ?_⟩
        · obtain ⟨q, hq1, hq2⟩ := Hv.out.1 h
          exact ⟨q, OL, hq1, hq2⟩
        · rw [if_pos Ho.out, show P6 + (4 + OL) = P6 + 4 + OL by omega]
          exact inv12.set 3 _
    · have ho' : (o == 4) = false := by simpa using ho
      go_wp2
      go_meet
      case rel => exact ⟨be bs P6 4, .slice none 0 0, fun _ => rfl, .inr ⟨ho, rfl⟩, by rw [if_neg ho]; exact inv10⟩
  case rest =>
  obtain ⟨OL, old, HOL, Hold, inv11⟩ := hcut
  clear inv10 k0
  obtain ⟨P8, hP8⟩ : ∃ P8, P8 = P6 + if o = 4 then 4 + OL else 0 := ⟨_, rfl⟩
  rw [← hP8] at inv11
  have HP8 : Hid (P8 = P6 + if o = 4 then 4 + OL else 0) := hP8
  clear hP8
  go_step
  exact into_11 F C g n bs ao w hF hlen hgD hCne f _ _ _ _ _ _ _ _ _ _ _ _ _ _ _ _ _ _ _ _ _ _ _ _ _ _ _ _ _ _ _ _ _ _ _ _ _ _ _ _ _ _ _ _ _ _ _ _ _ _ _ _ _ _ _ _ _ _ _ _ _ _ _ _ _ _ _ _ _ _ _ _ _ _ _ _ _ _ _ _ _ _ _ _ _ _ _ _ _ _ _ _ _ _ _ _ _ _ _ _ _ _ _ _ _ _ _ _ _ _ _ _ _ _ _ _ _ _ _ _ _ _ _ _ _ _ _ _ _ _ _ _ _ _ _ _ _ _ _ _ _ _ _ _ _ _ _ _ _ _ _ _ _ _ _ _ _ _ _ _ _ _ o P Hh hobd Hknown hP1 S0 S1 S2 S3 HS hq2 LE HLE hq3 RE HRE hq4 KL key HKL P6 Hkey HP6 OL old HOL Hold P8 HP8 inv11

end Go.Proofs.Qxb6614561aFmt
