/-
  THE WALK of DecodeInto, cut by cut: on.
-/
import Derived.Test.Qxb6614561aFmtIntoB
namespace Go.Proofs.Qxb6614561aFmt
open Go Go.RowKit Go.Extern.Stop Go.Stop Go.Extern
set_option linter.unusedVariables false

set_option maxHeartbeats 4000000 in
set_option maxRecDepth 100000 in
theorem into_8 (F : Interp) (C g n : Nat) (bs : List UInt8) (ao : Option Addr) (w : World) (hF : F.answers w.tape) (hlen : bs.length ≤ 1048576) (hgD : g < w.heap.size) (hCne : ¬ w.heap.size = C) (f : Int) (u8 u9 u10 u11 u12 u13 u14 u15 u16 u17 u18 u19 u20 u21 u22 u23 u24 u25 u26 u27 u28 u29 u30 u31 u32 u33 u34 u35 u36 u37 u38 u39 u40 u41 u42 u43 u44 u45 u46 u47 u48 u49 u50 u51 u52 u53 u54 u55 u56 u57 u58 u59 u60 u61 u62 u63 u64 u65 u66 u67 u68 u69 u70 u71 u72 u73 u74 u75 u76 u77 u78 u79 u80 u81 u82 u83 u84 u85 u86 u87 u88 u89 u90 u91 u92 u93 u94 u95 u96 u97 u98 u99 u100 u101 u102 u103 u104 u105 u106 u107 u108 u109 u110 u111 u112 u113 u114 u115 u116 u117 u118 u119 u120 u121 u122 u123 u124 u125 u126 u127 u128 u129 u130 u131 u132 u133 u134 u135 u136 u137 u138 u139 u140 u141 u142 u143 u144 u145 u146 u147 u148 u149 u150 u151 u152 u153 u154 u155 u156 u157 u158 u159 u160 u161 u162 u163 u164 u165 u166 u167 u168 : Value) (wc : World)
    (o : Int) (P : Nat) (Hh : Hid (HeadRel bs f o P)) (hobd : 0 ≤ o ∧ o < 256) (Hknown : Hid (bs.length < P ∨ (1 ≤ o ∧ o ≤ 10))) (hP1 : 1 ≤ P) (S0 S1 S2 S3 : Nat) (HS : Hid (q2 f P ≤ bs.length → S0 = sess bs f P 0 ∧ S1 = sess bs f P 1 ∧ S2 = sess bs f P 2 ∧ S3 = sess bs f P 3)) (hq2 : Hid (P ≤ q2 f P)) (LE : Nat) (HLE : Hid (q3 f P ≤ bs.length → LE = leaseV bs f P)) (hq3 : Hid (q2 f P ≤ q3 f P))
    (inv8 : Inv w C w.heap.size g bs (q3 f P) (cmdA (.int .u8 o) (.string ⟨#[]⟩) (.slice none 0 0) (.slice none 0 0) (.int .u64 S0) (.int .u64 S1) (.int .i64 (wrap64 S2)) (.int .i64 (wrap64 S3)) (.int .u64 LE) (.int .i64 0) (.bool false) (.int .u64 0) (.int .u64 0) (.int .u64 0) (.int .u64 0) (.int .i64 0)) wc) :
    Code.wp Tryf.prog (dropS 8 (Tryf.f12.body.getD .skip)) (bodyPost Tryf.prog Tryf.f12 fun e w' => IntoEnd w C g bs e w') ⟨#[.pointer (some ⟨C, 0, none⟩), .slice ao n n, undef, undef, .nilIface, .pointer (some ⟨w.heap.size, 0, none⟩), .int .u8 f, undef, u8, u9, u10, u11, u12, u13, u14, u15, u16, u17, u18, u19, u20, u21, u22, u23, u24, u25, u26, u27, u28, u29, u30, u31, u32, u33, u34, u35, u36, u37, u38, u39, u40, u41, u42, u43, u44, u45, u46, u47, u48, u49, u50, u51, u52, u53, u54, u55, u56, u57, u58, u59, u60, u61, u62, u63, u64, u65, u66, u67, u68, u69, u70, u71, u72, u73, u74, u75, u76, u77, u78, u79, u80, u81, u82, u83, u84, u85, u86, u87, u88, u89, u90, u91, u92, u93, u94, u95, u96, u97, u98, u99, u100, u101, u102, u103, u104, u105, u106, u107, u108, u109, u110, u111, u112, u113, u114, u115, u116, u117, u118, u119, u120, u121, u122, u123, u124, u125, u126, u127, u128, u129, u130, u131, u132, u133, u134, u135, u136, u137, u138, u139, u140, u141, u142, u143, u144, u145, u146, u147, u148, u149, u150, u151, u152, u153, u154, u155, u156, u157, u158, u159, u160, u161, u162, u163, u164, u165, u166, u167, u168], []⟩ wc := by
  conv => arg 2; whnf
  -- 'if first&withRevision != 0'
  go_upto_if 90 with fail
  go_cut [] (fun wx => ∃ RE : Nat, Hid (q4 f P ≤ bs.length → RE = revV bs f P) ∧ Inv w C w.heap.size g bs (q4 f P) (cmdA (.int .u8 o) (.string ⟨#[]⟩) (.slice none 0 0) (.slice none 0 0) (.int .u64 S0) (.int .u64 S1) (.int .i64 (wrap64 S2)) (.int .i64 (wrap64 S3)) (.int .u64 LE) (.int .i64 0) (.bool (flg f 8)) (.int .u64 RE) (.int .u64 0) (.int .u64 0) (.int .u64 0) (.int .i64 0)) wx)
  case first =>
    have k10 := inv8.cmd.cell 10
    have k11 := inv8.cmd.cell 11
    simp only [List.getElem?_toArray, List.getElem?_cons_zero, List.getElem?_cons_succ] at k10 k11
    have fz := inv8.cmd.frozen
    cases hfl : (bits BinOp.and IntKind.u8 f 8 != 0)
    · have hfl' : ¬ flg f 8 = true := by unfold flg; rw [hfl]; simp
      have hff : flg f 8 = false := by unfold flg; exact hfl
      have hq : q4 f P = q3 f P := by unfold q4; rw [if_neg hfl']; rfl
      go_wp2
      go_meet
      case rel =>
        refine ⟨0, fun _ => ?_, ?_⟩
        · unfold revV; rw [if_neg hfl']
        · rw [hq, hff]; exact inv8
    · have hfl' : flg f 8 = true := hfl
      have Hfl : Hid (flg f 8 = true) := hfl'
      clear hfl'
      have hq : Hid (q4 f P = q3 f P + 8) := by unfold q4; rw [if_pos Hfl.out]; rfl
      go_wp2_with fail
      refine (number_any w.heap.size g (q3 f P) bs hlen hgD 8 8 rfl (by omega) _ _ inv8.st inv8.bytes).mono ?_
      rintro e w2 ⟨X0, rfl, hX0, hvX0, stX0, hbX0⟩
      have inv9 := inv8.call stX0 hbX0
      have HVX0 : Hid ((q3 f P) + 8 ≤ bs.length → X0 = be bs (q3 f P) 8) := hvX0
      clear hvX0 stX0 hbX0
      clear k10 k11 fz
      have k10 := inv9.cmd.cell 10
      have k11 := inv9.cmd.cell 11
      simp only [List.getElem?_toArray, List.getElem?_cons_zero, List.getElem?_cons_succ] at k10 k11
      have fz := inv9.cmd.frozen
      go_wp2
      go_meet
      case rel =>
        refine ⟨X0, fun h => ?_, ?_⟩
        · rw [HVX0.out (by rw [← hq.out]; exact h)]; unfold revV; rw [if_pos Hfl.out]
        · rw [hq.out, Hfl.out]; exact (inv9.set 10 _).set 11 _
  case rest =>
  obtain ⟨RE, HRE, inv9⟩ := hcut
  clear inv8
  have hq4 : Hid (q3 f P ≤ q4 f P) := by unfold Hid q4; split <;> omega
  -- the key
  go_upto_region 18 with fail
  go_cut [] (fun wx => ∃ (KL : Nat) (key : ByteArray), Hid (q4 f P + 2 ≤ bs.length → KL = keyLen bs f P) ∧ Hid (q4 f P + 2 + KL ≤ bs.length → key = keyS bs f P) ∧ Inv w C w.heap.size g bs (q4 f P + 2 + KL) (cmdA (.int .u8 o) (.string key) (.slice none 0 0) (.slice none 0 0) (.int .u64 S0) (.int .u64 S1) (.int .i64 (wrap64 S2)) (.int .i64 (wrap64 S3)) (.int .u64 LE) (.int .i64 0) (.bool (flg f 8)) (.int .u64 RE) (.int .u64 0) (.int .u64 0) (.int .u64 0) (.int .i64 0)) wx)
  case first =>
    go_wp2_with fail
    refine (number_any w.heap.size g (q4 f P) bs hlen hgD 2 2 rfl (by omega) _ _ inv9.st inv9.bytes).mono ?_
    rintro e w2 ⟨KL, rfl, hKL, hvKL, stKL, hbKL⟩
    have inv10 := inv9.call stKL hbKL
    have HVKL : Hid ((q4 f P) + 2 ≤ bs.length → KL = be bs (q4 f P) 2) := hvKL
    clear hvKL stKL hbKL
    have hKL' : KL < 65536 := hKL
    clear hKL
    have hpos : bs.length < q4 f P + 2 ∨ 1 ≤ bs.length := by
      have h1 := hq2.out; have h2 := hq3.out; have h3 := hq4.out
      omega
    go_wp2_with fail
    refine (take_any w.heap.size g (q4 f P + 2) bs hlen KL KL (by omega) rfl (by omega) _ _ inv10.st).mono ?_
    rintro e w3 ⟨v, rfl, hv, stv, hbv⟩
    have inv11 := inv10.call stv hbv
    clear stv hbv
    obtain ⟨key, hcv, hkey⟩ := took_string hv inv11.bytes
    have Hkey : Hid (q4 f P + 2 + KL ≤ bs.length → key = ⟨((bs.drop (q4 f P + 2)).take KL).toArray⟩) := hkey
    clear hkey hv
    have k1 := inv11.cmd.cell 1
    simp only [List.getElem?_toArray, List.getElem?_cons_zero, List.getElem?_cons_succ] at k1
    have fz := inv11.cmd.frozen
    go_wp2
    go_meet
    case rel =>
      refine ⟨KL, key, HVKL.out, fun h => ?_, inv11.set 1 _⟩
      rw [Hkey.out h, HVKL.out (by omega)]
      rfl
  case rest =>
  obtain ⟨KL, key, HKL, Hkey, inv10⟩ := hcut
  clear inv9
  obtain ⟨P6, hP6⟩ : ∃ P6, P6 = q4 f P + 2 + KL := ⟨_, rfl⟩
  rw [← hP6] at inv10 Hkey
  have HP6 : Hid (P6 = q4 f P + 2 + KL) := hP6
  clear hP6
  go_step
  exact into_10 F C g n bs ao w hF hlen hgD hCne f _ _ _ _ _ _ _ _ _ _ _ _ _ _ _ _ _ _ _ _ _ _ _ _ _ _ _ _ _ _ _ _ _ _ _ _ _ _ _ _ _ _ _ _ _ _ _ _ _ _ _ _ _ _ _ _ _ _ _ _ _ _ _ _ _ _ _ _ _ _ _ _ _ _ _ _ _ _ _ _ _ _ _ _ _ _ _ _ _ _ _ _ _ _ _ _ _ _ _ _ _ _ _ _ _ _ _ _ _ _ _ _ _ _ _ _ _ _ _ _ _ _ _ _ _ _ _ _ _ _ _ _ _ _ _ _ _ _ _ _ _ _ _ _ _ _ _ _ _ _ _ _ _ _ _ _ _ _ _ _ _ _ o P Hh hobd Hknown hP1 S0 S1 S2 S3 HS hq2 LE HLE hq3 RE HRE hq4 KL key HKL P6 Hkey HP6 inv10

set_option maxHeartbeats 4000000 in
set_option maxRecDepth 100000 in
theorem into_7 (F : Interp) (C g n : Nat) (bs : List UInt8) (ao : Option Addr) (w : World) (hF : F.answers w.tape) (hlen : bs.length ≤ 1048576) (hgD : g < w.heap.size) (hCne : ¬ w.heap.size = C) (f : Int) (u8 u9 u10 u11 u12 u13 u14 u15 u16 u17 u18 u19 u20 u21 u22 u23 u24 u25 u26 u27 u28 u29 u30 u31 u32 u33 u34 u35 u36 u37 u38 u39 u40 u41 u42 u43 u44 u45 u46 u47 u48 u49 u50 u51 u52 u53 u54 u55 u56 u57 u58 u59 u60 u61 u62 u63 u64 u65 u66 u67 u68 u69 u70 u71 u72 u73 u74 u75 u76 u77 u78 u79 u80 u81 u82 u83 u84 u85 u86 u87 u88 u89 u90 u91 u92 u93 u94 u95 u96 u97 u98 u99 u100 u101 u102 u103 u104 u105 u106 u107 u108 u109 u110 u111 u112 u113 u114 u115 u116 u117 u118 u119 u120 u121 u122 u123 u124 u125 u126 u127 u128 u129 u130 u131 u132 u133 u134 u135 u136 u137 u138 u139 u140 u141 u142 u143 u144 u145 u146 u147 u148 u149 u150 u151 u152 u153 u154 u155 u156 u157 u158 u159 u160 u161 u162 u163 u164 u165 u166 u167 u168 : Value) (wc : World)
    (o : Int) (P : Nat) (Hh : Hid (HeadRel bs f o P)) (hobd : 0 ≤ o ∧ o < 256) (Hknown : Hid (bs.length < P ∨ (1 ≤ o ∧ o ≤ 10))) (hP1 : 1 ≤ P) (S0 S1 S2 S3 : Nat) (HS : Hid (q2 f P ≤ bs.length → S0 = sess bs f P 0 ∧ S1 = sess bs f P 1 ∧ S2 = sess bs f P 2 ∧ S3 = sess bs f P 3)) (hq2 : Hid (P ≤ q2 f P))
    (inv7 : Inv w C w.heap.size g bs (q2 f P) (cmdA (.int .u8 o) (.string ⟨#[]⟩) (.slice none 0 0) (.slice none 0 0) (.int .u64 S0) (.int .u64 S1) (.int .i64 (wrap64 S2)) (.int .i64 (wrap64 S3)) (.int .u64 0) (.int .i64 0) (.bool false) (.int .u64 0) (.int .u64 0) (.int .u64 0) (.int .u64 0) (.int .i64 0)) wc) :
    Code.wp Tryf.prog (dropS 7 (Tryf.f12.body.getD .skip)) (bodyPost Tryf.prog Tryf.f12 fun e w' => IntoEnd w C g bs e w') ⟨#[.pointer (some ⟨C, 0, none⟩), .slice ao n n, undef, undef, .nilIface, .pointer (some ⟨w.heap.size, 0, none⟩), .int .u8 f, undef, u8, u9, u10, u11, u12, u13, u14, u15, u16, u17, u18, u19, u20, u21, u22, u23, u24, u25, u26, u27, u28, u29, u30, u31, u32, u33, u34, u35, u36, u37, u38, u39, u40, u41, u42, u43, u44, u45, u46, u47, u48, u49, u50, u51, u52, u53, u54, u55, u56, u57, u58, u59, u60, u61, u62, u63, u64, u65, u66, u67, u68, u69, u70, u71, u72, u73, u74, u75, u76, u77, u78, u79, u80, u81, u82, u83, u84, u85, u86, u87, u88, u89, u90, u91, u92, u93, u94, u95, u96, u97, u98, u99, u100, u101, u102, u103, u104, u105, u106, u107, u108, u109, u110, u111, u112, u113, u114, u115, u116, u117, u118, u119, u120, u121, u122, u123, u124, u125, u126, u127, u128, u129, u130, u131, u132, u133, u134, u135, u136, u137, u138, u139, u140, u141, u142, u143, u144, u145, u146, u147, u148, u149, u150, u151, u152, u153, u154, u155, u156, u157, u158, u159, u160, u161, u162, u163, u164, u165, u166, u167, u168], []⟩ wc := by
  conv => arg 2; whnf
  -- 'if first&withLease != 0'
  go_upto_if 83 with fail
  go_cut [] (fun wx => ∃ LE : Nat, Hid (q3 f P ≤ bs.length → LE = leaseV bs f P) ∧ Inv w C w.heap.size g bs (q3 f P) (cmdA (.int .u8 o) (.string ⟨#[]⟩) (.slice none 0 0) (.slice none 0 0) (.int .u64 S0) (.int .u64 S1) (.int .i64 (wrap64 S2)) (.int .i64 (wrap64 S3)) (.int .u64 LE) (.int .i64 0) (.bool false) (.int .u64 0) (.int .u64 0) (.int .u64 0) (.int .u64 0) (.int .i64 0)) wx)
  case first =>
    have k8 := inv7.cmd.cell 8
    simp only [List.getElem?_toArray, List.getElem?_cons_zero, List.getElem?_cons_succ] at k8
    have fz := inv7.cmd.frozen
    cases hfl : (bits BinOp.and IntKind.u8 f 16 != 0)
    · have hfl' : ¬ flg f 16 = true := by unfold flg; rw [hfl]; simp
      have hq : q3 f P = q2 f P := by unfold q3; rw [if_neg hfl']; rfl
      go_wp2
      go_meet
      case rel =>
        refine ⟨0, fun _ => ?_, ?_⟩
        · unfold leaseV; rw [if_neg hfl']
        · rw [hq]; exact inv7
    · have hfl' : flg f 16 = true := hfl
      have hq : Hid (q3 f P = q2 f P + 8) := by unfold q3; rw [if_pos hfl']; rfl
      go_wp2_with fail
      refine (number_any w.heap.size g (q2 f P) bs hlen hgD 8 8 rfl (by omega) _ _ inv7.st inv7.bytes).mono ?_
      rintro e w2 ⟨X0, rfl, hX0, hvX0, stX0, hbX0⟩
      have inv8 := inv7.call stX0 hbX0
      have HVX0 : Hid ((q2 f P) + 8 ≤ bs.length → X0 = be bs (q2 f P) 8) := hvX0
      clear hvX0 stX0 hbX0
      clear k8 fz
      have k8 := inv8.cmd.cell 8
      simp only [List.getElem?_toArray, List.getElem?_cons_zero, List.getElem?_cons_succ] at k8
      have fz := inv8.cmd.frozen
      go_wp2
      go_meet
      case rel =>
        refine ⟨X0, fun h => ?_, ?_⟩
        · rw [HVX0.out (by rw [← hq.out]; exact h)]; unfold leaseV; rw [if_pos hfl']
        · rw [hq.out]; exact inv8.set 8 _
  case rest =>
  obtain ⟨LE, HLE, inv8⟩ := hcut
  clear inv7
  have hq3 : Hid (q2 f P ≤ q3 f P) := by unfold Hid q3; split <;> omega
  go_step
  exact into_8 F C g n bs ao w hF hlen hgD hCne f _ _ _ _ _ _ _ _ _ _ _ _ _ _ _ _ _ _ _ _ _ _ _ _ _ _ _ _ _ _ _ _ _ _ _ _ _ _ _ _ _ _ _ _ _ _ _ _ _ _ _ _ _ _ _ _ _ _ _ _ _ _ _ _ _ _ _ _ _ _ _ _ _ _ _ _ _ _ _ _ _ _ _ _ _ _ _ _ _ _ _ _ _ _ _ _ _ _ _ _ _ _ _ _ _ _ _ _ _ _ _ _ _ _ _ _ _ _ _ _ _ _ _ _ _ _ _ _ _ _ _ _ _ _ _ _ _ _ _ _ _ _ _ _ _ _ _ _ _ _ _ _ _ _ _ _ _ _ _ _ _ _ o P Hh hobd Hknown hP1 S0 S1 S2 S3 HS hq2 LE HLE hq3 inv8

set_option maxHeartbeats 4000000 in
set_option maxRecDepth 100000 in
theorem into_6 (F : Interp) (C g n : Nat) (bs : List UInt8) (ao : Option Addr) (w : World) (hF : F.answers w.tape) (hlen : bs.length ≤ 1048576) (hgD : g < w.heap.size) (hCne : ¬ w.heap.size = C) (f : Int) (u8 u9 u10 u11 u12 u13 u14 u15 u16 u17 u18 u19 u20 u21 u22 u23 u24 u25 u26 u27 u28 u29 u30 u31 u32 u33 u34 u35 u36 u37 u38 u39 u40 u41 u42 u43 u44 u45 u46 u47 u48 u49 u50 u51 u52 u53 u54 u55 u56 u57 u58 u59 u60 u61 u62 u63 u64 u65 u66 u67 u68 u69 u70 u71 u72 u73 u74 u75 u76 u77 u78 u79 u80 u81 u82 u83 u84 u85 u86 u87 u88 u89 u90 u91 u92 u93 u94 u95 u96 u97 u98 u99 u100 u101 u102 u103 u104 u105 u106 u107 u108 u109 u110 u111 u112 u113 u114 u115 u116 u117 u118 u119 u120 u121 u122 u123 u124 u125 u126 u127 u128 u129 u130 u131 u132 u133 u134 u135 u136 u137 u138 u139 u140 u141 u142 u143 u144 u145 u146 u147 u148 u149 u150 u151 u152 u153 u154 u155 u156 u157 u158 u159 u160 u161 u162 u163 u164 u165 u166 u167 u168 : Value) (wc : World)
    (o : Int) (P : Nat) (Hh : Hid (HeadRel bs f o P)) (hobd : 0 ≤ o ∧ o < 256) (Hknown : Hid (bs.length < P ∨ (1 ≤ o ∧ o ≤ 10))) (hP1 : 1 ≤ P)
    (inv6 : Inv w C w.heap.size g bs P (cmdA (.int .u8 o) (.string ⟨#[]⟩) (.slice none 0 0) (.slice none 0 0) (.int .u64 0) (.int .u64 0) (.int .i64 0) (.int .i64 0) (.int .u64 0) (.int .i64 0) (.bool false) (.int .u64 0) (.int .u64 0) (.int .u64 0) (.int .u64 0) (.int .i64 0)) wc) :
    Code.wp Tryf.prog (dropS 6 (Tryf.f12.body.getD .skip)) (bodyPost Tryf.prog Tryf.f12 fun e w' => IntoEnd w C g bs e w') ⟨#[.pointer (some ⟨C, 0, none⟩), .slice ao n n, undef, undef, .nilIface, .pointer (some ⟨w.heap.size, 0, none⟩), .int .u8 f, undef, u8, u9, u10, u11, u12, u13, u14, u15, u16, u17, u18, u19, u20, u21, u22, u23, u24, u25, u26, u27, u28, u29, u30, u31, u32, u33, u34, u35, u36, u37, u38, u39, u40, u41, u42, u43, u44, u45, u46, u47, u48, u49, u50, u51, u52, u53, u54, u55, u56, u57, u58, u59, u60, u61, u62, u63, u64, u65, u66, u67, u68, u69, u70, u71, u72, u73, u74, u75, u76, u77, u78, u79, u80, u81, u82, u83, u84, u85, u86, u87, u88, u89, u90, u91, u92, u93, u94, u95, u96, u97, u98, u99, u100, u101, u102, u103, u104, u105, u106, u107, u108, u109, u110, u111, u112, u113, u114, u115, u116, u117, u118, u119, u120, u121, u122, u123, u124, u125, u126, u127, u128, u129, u130, u131, u132, u133, u134, u135, u136, u137, u138, u139, u140, u141, u142, u143, u144, u145, u146, u147, u148, u149, u150, u151, u152, u153, u154, u155, u156, u157, u158, u159, u160, u161, u162, u163, u164, u165, u166, u167, u168], []⟩ wc := by
  conv => arg 2; whnf
  -- 'if first&withSession != 0'
  go_upto_if 70 with fail
  go_cut [] (fun wx => ∃ S0 S1 S2 S3 : Nat, Hid (q2 f P ≤ bs.length → S0 = sess bs f P 0 ∧ S1 = sess bs f P 1 ∧ S2 = sess bs f P 2 ∧ S3 = sess bs f P 3) ∧ Inv w C w.heap.size g bs (q2 f P) (cmdA (.int .u8 o) (.string ⟨#[]⟩) (.slice none 0 0) (.slice none 0 0) (.int .u64 S0) (.int .u64 S1) (.int .i64 (wrap64 S2)) (.int .i64 (wrap64 S3)) (.int .u64 0) (.int .i64 0) (.bool false) (.int .u64 0) (.int .u64 0) (.int .u64 0) (.int .u64 0) (.int .i64 0)) wx)
  case first =>
    have k4 := inv6.cmd.cell 4
    have k5 := inv6.cmd.cell 5
    have k6 := inv6.cmd.cell 6
    have k7 := inv6.cmd.cell 7
    simp only [List.getElem?_toArray, List.getElem?_cons_zero, List.getElem?_cons_succ] at k4 k5 k6 k7
    have fz := inv6.cmd.frozen
    cases hfl : (bits BinOp.and IntKind.u8 f 32 != 0)
    · have hfl' : ¬ flg f 32 = true := by unfold flg; rw [hfl]; simp
      have hq : q2 f P = P := by unfold q2; rw [if_neg hfl']; rfl
      go_wp2
      go_meet
      case rel =>
        refine ⟨0, 0, 0, 0, fun _ => ⟨?_, ?_, ?_, ?_⟩, ?_⟩
        · unfold sess; rw [if_neg hfl']
        · unfold sess; rw [if_neg hfl']
        · unfold sess; rw [if_neg hfl']
        · unfold sess; rw [if_neg hfl']
        · have e0 : wrap64 ((0 : Nat) : Int) = 0 := wrap64_small 0 (by omega)
          rw [hq, e0]; exact inv6
    · have hfl' : flg f 32 = true := hfl
      have hq : Hid (q2 f P = P + 32) := by unfold q2; rw [if_pos hfl']; rfl
      go_wp2_with fail
      refine (number_any w.heap.size g (P) bs hlen hgD 8 8 rfl (by omega) _ _ inv6.st inv6.bytes).mono ?_
      rintro e w2 ⟨X0, rfl, hX0, hvX0, stX0, hbX0⟩
      have inv7 := inv6.call stX0 hbX0
      have HVX0 : Hid ((P) + 8 ≤ bs.length → X0 = be bs (P) 8) := hvX0
      clear hvX0 stX0 hbX0
      go_wp2_with fail
      refine (number_any w.heap.size g (P + 8) bs hlen hgD 8 8 rfl (by omega) _ _ inv7.st inv7.bytes).mono ?_
      rintro e w3 ⟨X1, rfl, hX1, hvX1, stX1, hbX1⟩
      have inv8 := inv7.call stX1 hbX1
      have HVX1 : Hid ((P + 8) + 8 ≤ bs.length → X1 = be bs (P + 8) 8) := hvX1
      clear hvX1 stX1 hbX1
      go_wp2_with fail
      refine (number_any w.heap.size g (P + 8 + 8) bs hlen hgD 8 8 rfl (by omega) _ _ inv8.st inv8.bytes).mono ?_
      rintro e w4 ⟨X2, rfl, hX2, hvX2, stX2, hbX2⟩
      have inv9 := inv8.call stX2 hbX2
      have HVX2 : Hid ((P + 8 + 8) + 8 ≤ bs.length → X2 = be bs (P + 8 + 8) 8) := hvX2
      clear hvX2 stX2 hbX2
      go_wp2_with fail
      refine (number_any w.heap.size g (P + 8 + 8 + 8) bs hlen hgD 8 8 rfl (by omega) _ _ inv9.st inv9.bytes).mono ?_
      rintro e w5 ⟨X3, rfl, hX3, hvX3, stX3, hbX3⟩
      have inv10 := inv9.call stX3 hbX3
      have HVX3 : Hid ((P + 8 + 8 + 8) + 8 ≤ bs.length → X3 = be bs (P + 8 + 8 + 8) 8) := hvX3
      clear hvX3 stX3 hbX3
      clear k4 k5 k6 k7 fz
      have k4 := inv10.cmd.cell 4
      have k5 := inv10.cmd.cell 5
      have k6 := inv10.cmd.cell 6
      have k7 := inv10.cmd.cell 7
      simp only [List.getElem?_toArray, List.getElem?_cons_zero, List.getElem?_cons_succ] at k4 k5 k6 k7
      have fz := inv10.cmd.frozen
      go_wp2
      go_meet
      case rel =>
        refine ⟨X0, X1, X2, X3, fun h => ?_, ?_⟩
        · have h' : P + 32 ≤ bs.length := by rw [← hq.out]; exact h
          refine ⟨?_, ?_, ?_, ?_⟩
          · rw [HVX0.out (by omega)]; unfold sess; rw [if_pos hfl']; rfl
          · rw [HVX1.out (by omega)]; unfold sess; rw [if_pos hfl']
          · rw [HVX2.out (by omega)]; unfold sess; rw [if_pos hfl']
          · rw [HVX3.out (by omega)]; unfold sess; rw [if_pos hfl']
        · rw [hq.out]
          exact (((inv10.set 4 _).set 5 _).set 6 _).set 7 _
  case rest =>
  obtain ⟨S0, S1, S2, S3, HS, inv7⟩ := hcut
  clear inv6
  have hq2 : Hid (P ≤ q2 f P) := by unfold Hid q2; split <;> omega
  go_step
  exact into_7 F C g n bs ao w hF hlen hgD hCne f _ _ _ _ _ _ _ _ _ _ _ _ _ _ _ _ _ _ _ _ _ _ _ _ _ _ _ _ _ _ _ _ _ _ _ _ _ _ _ _ _ _ _ _ _ _ _ _ _ _ _ _ _ _ _ _ _ _ _ _ _ _ _ _ _ _ _ _ _ _ _ _ _ _ _ _ _ _ _ _ _ _ _ _ _ _ _ _ _ _ _ _ _ _ _ _ _ _ _ _ _ _ _ _ _ _ _ _ _ _ _ _ _ _ _ _ _ _ _ _ _ _ _ _ _ _ _ _ _ _ _ _ _ _ _ _ _ _ _ _ _ _ _ _ _ _ _ _ _ _ _ _ _ _ _ _ _ _ _ _ _ _ o P Hh hobd Hknown hP1 S0 S1 S2 S3 HS hq2 inv7

end Go.Proofs.Qxb6614561aFmt
