/-
  THE WALK of zLayout: the tails.
-/
import Derived.Test.Qxb6614561aFmtLayA
namespace Go.Proofs.Qxb6614561aFmt
open Go Go.RowKit Go.Extern.Stop Go.Stop Go.Extern
set_option linter.unusedVariables false

set_option maxHeartbeats 4000000 in
set_option maxRecDepth 100000 in
theorem lay_35 (g n : Nat) (bs : List UInt8) (w : World) (hg : g < w.heap.size) (hbs : Bs w g bs) (Hn : Hid (bs.length = n)) (hmax : n ≤ 1048576) (f o : Int) (p A2 A3 A4 KL T V OL : Nat) (u16 u17 u18 u19 u20 u21 u22 u23 u24 u25 u26 u27 u28 u29 u30 u31 u32 u33 u34 u35 u36 u37 u38 u39 u40 u41 u42 u43 u44 u45 u46 u47 u48 u49 u50 u51 u52 u53 u54 u55 u56 u57 u58 u59 u60 u61 u62 u63 u64 u65 u66 u67 u68 u69 u70 u71 u72 u73 u74 u75 u76 u77 u78 u79 u80 u81 u82 u83 u84 u85 u86 u87 u88 u89 u90 u91 u92 u93 u94 u95 u96 u97 u98 u99 u100 u101 u102 u103 u104 u105 u106 u107 u108 u109 u110 u111 u112 u113 u114 u115 u116 u117 u118 u119 u120 u121 u122 u123 u124 u125 u126 u127 u128 u129 u130 u131 u132 u133 u134 u135 u136 u137 u138 u139 u140 u141 u142 u143 u144 u145 u146 u147 u148 u149 u150 u151 u152 u153 u154 u155 u156 u157 u158 u159 u160 u161 u162 u163 u164 u165 u166 u167 u168 u169 u170 u171 u172 u173 u174 u175 u176 u177 u178 u179 u180 u181 u182 u183 u184 u185 u186 u187 u188 u189 u190 u191 u192 u193 u194 u195 u196 u197 u198 u199 u200 u201 u202 u203 u204 u205 u206 u207 u208 u209 u210 u211 u212 u213 u214 u215 : Value)
    (hpA : p ≤ A2) (h23 : A2 ≤ A3) (h34 : A3 ≤ A4) (h4T : A4 + 2 + KL ≤ T) (hT4 : T ≤ A4 + 2 + KL) (hTV : T ≤ V) (hV : V ≤ n) (HA2 : Hid (A2 = q2 f p)) (HA3 : Hid (A3 = q3 f p)) (HA4 : Hid (A4 = q4 f p)) (HKL : Hid (KL = keyLen bs f p)) (HT : Hid (T = q6 bs f p)) (HV : Hid (V = q7 bs f o p)) (HOL : Hid (o = 4 → OL = oldLen bs f p)) (Hh : Hid (HeadRel bs f o p)) (Hok : Hid (¬ Bad bs f o p)) (hobd : 0 ≤ o ∧ o < 256)
    (S0 S1 S2 S3 : Nat) (HS : Hid (S0 = sess bs f p 0 ∧ S1 = sess bs f p 1 ∧ S2 = sess bs f p 2 ∧ S3 = sess bs f p 3)) (LE : Nat) (HLE : Hid (LE = leaseV bs f p)) (RE : Nat) (HRE : Hid (RE = revV bs f p)) (key : ByteArray) (Hkey : Hid (key = keyS bs f p)) (o1 : Option Addr) (o2 o3 : Nat) (Hold : Hid ((o = 4 ∧ IsSl g (T + 4) OL (.slice o1 o2 o3)) ∨ (o ≠ 4 ∧ Value.slice o1 o2 o3 = .slice none 0 0))) (TT : Nat) (HTT : Hid (TT = ttlV bs f o p)) (OD : Nat) (HOD : Hid (OD = opV 8 bs f o p 0)) (FO : Nat) (HFO : Hid (FO = opV 9 bs f o p 0)) :
    Code.wp Tryf.prog (dropS 35 (Tryf.f6.body.getD .skip)) (bodyPost Tryf.prog Tryf.f6 fun e w' => LayEnd w g bs e w') ⟨#[.slice (some ⟨g, 0, none⟩) n n, undef, .bool false, .pointer (some ⟨w.heap.size, 0, none⟩), .pointer (some ⟨w.heap.size + 1, 0, none⟩), .int .i64 (n : Int), .int .u8 f, .int .u8 o, .int .i64 (V : Int), .int .i64 (p : Int), .int .i64 (A2 : Int), .int .i64 (A3 : Int), .int .i64 (KL : Int), .int .i64 ((A4 : Int) + 2), .int .i64 (T : Int), .int .i64 (OL : Int), u16, u17, u18, u19, u20, u21, u22, u23, u24, u25, u26, u27, u28, u29, u30, u31, u32, u33, u34, u35, u36, u37, u38, u39, u40, u41, u42, u43, u44, u45, u46, u47, u48, u49, u50, u51, u52, u53, u54, u55, u56, u57, u58, u59, u60, u61, u62, u63, u64, u65, u66, u67, u68, u69, u70, u71, u72, u73, u74, u75, u76, u77, u78, u79, u80, u81, u82, u83, u84, u85, u86, u87, u88, u89, u90, u91, u92, u93, u94, u95, u96, u97, u98, u99, u100, u101, u102, u103, u104, u105, u106, u107, u108, u109, u110, u111, u112, u113, u114, u115, u116, u117, u118, u119, u120, u121, u122, u123, u124, u125, u126, u127, u128, u129, u130, u131, u132, u133, u134, u135, u136, u137, u138, u139, u140, u141, u142, u143, u144, u145, u146, u147, u148, u149, u150, u151, u152, u153, u154, u155, u156, u157, u158, u159, u160, u161, u162, u163, u164, u165, u166, u167, u168, u169, u170, u171, u172, u173, u174, u175, u176, u177, u178, u179, u180, u181, u182, u183, u184, u185, u186, u187, u188, u189, u190, u191, u192, u193, u194, u195, u196, u197, u198, u199, u200, u201, u202, u203, u204, u205, u206, u207, u208, u209, u210, u211, u212, u213, u214, u215], []⟩ ((w.alloc ZO).alloc (.cells (cmdA (.int .u8 o) (.string key) (.slice none 0 0) (.slice o1 o2 o3) (.int .u64 S0) (.int .u64 S1) (.int .i64 (wrap64 S2)) (.int .i64 (wrap64 S3)) (.int .u64 LE) (.int .i64 (TT : Int)) (.bool (flg f 8)) (.int .u64 RE) (.int .u64 (OD : Int)) (.int .u64 (FO : Int)) (.int .u64 0) (.int .i64 0)) 30)) := by
  conv => arg 2; whnf
  go_upto_if 200 with fail
  go_cut [] (fun wx => ∃ FR CL : Nat, Hid (FR = opV 10 bs f o p 0 ∧ CL = opV 10 bs f o p 8) ∧ wx = ((w.alloc ZO).alloc (.cells (cmdA (.int .u8 o) (.string key) (.slice none 0 0) (.slice o1 o2 o3) (.int .u64 S0) (.int .u64 S1) (.int .i64 (wrap64 S2)) (.int .i64 (wrap64 S3)) (.int .u64 LE) (.int .i64 (TT : Int)) (.bool (flg f 8)) (.int .u64 RE) (.int .u64 (OD : Int)) (.int .u64 (FO : Int)) (.int .u64 (FR : Int)) (.int .i64 (wrap64 (CL : Int)))) 30)))
  case first =>
    by_cases ho : o = 10
    · have Ho : Hid (o = 10) := ho
      have ho' : (o == 10) = true := by simp [ho]
      clear ho
      have htw : T + 16 ≤ V := by
        rw [HV.out, HT.out]; unfold q7 tailW; rw [Ho.out]; exact Nat.le_refl _
      go_wp2_with fail
      refine (zBE_any g n n bs (T) (T) 8 (by omega) _ (bs2 hbs hg _ _) Hn.out (by omega) (by omega) hmax).mono ?_
      rintro e w' ⟨rfl, rfl⟩
      obtain ⟨FR, eFR⟩ : ∃ FR : Nat, FR = be bs (T) 8 := ⟨_, rfl⟩
      rw [← eFR]
      have EFR : Hid (FR = be bs (T) 8) := eFR
      have lFR : FR < 256 ^ 8 := by rw [eFR]; exact be_lt bs (T) 8
      clear eFR
      go_wp2_with fail
      refine (zBE_any g n n bs ((T : Int) + 8) (T + 8) 8 (by omega) _ (bs2 hbs hg _ _) Hn.out (by omega) (by omega) hmax).mono ?_
      rintro e w' ⟨rfl, rfl⟩
      obtain ⟨CL, eCL⟩ : ∃ CL : Nat, CL = be bs (T + 8) 8 := ⟨_, rfl⟩
      rw [← eCL]
      have ECL : Hid (CL = be bs (T + 8) 8) := eCL
      have lCL : CL < 256 ^ 8 := by rw [eCL]; exact be_lt bs (T + 8) 8
      clear eCL
      go_wp2
      go_meet
      case rel =>
        refine ⟨FR, CL, ⟨?_, ?_⟩, rfl⟩
        · unfold opV; rw [if_pos Ho.out, ← HT.out]; exact EFR.out
        · unfold opV; rw [if_pos Ho.out, ← HT.out]; exact ECL.out
    · have Ho : Hid (¬ o = 10) := ho
      have ho' : (o == 10) = false := by simpa using ho
      clear ho
      go_wp2
      go_meet
      case rel =>
        refine ⟨0, 0, ⟨?_, ?_⟩, by rw [wrap64_small 0 (by omega)]; rfl⟩
        · unfold opV; rw [if_neg Ho.out]
        · unfold opV; rw [if_neg Ho.out]
  case rest =>
  obtain ⟨FR, CL, HFR, rfl⟩ := hcut
  go_step
  exact lay_36 g n bs w hg hbs Hn hmax f o p A2 A3 A4 KL T V OL _ _ _ _ _ _ _ _ _ _ _ _ _ _ _ _ _ _ _ _ _ _ _ _ _ _ _ _ _ _ _ _ _ _ _ _ _ _ _ _ _ _ _ _ _ _ _ _ _ _ _ _ _ _ _ _ _ _ _ _ _ _ _ _ _ _ _ _ _ _ _ _ _ _ _ _ _ _ _ _ _ _ _ _ _ _ _ _ _ _ _ _ _ _ _ _ _ _ _ _ _ _ _ _ _ _ _ _ _ _ _ _ _ _ _ _ _ _ _ _ _ _ _ _ _ _ _ _ _ _ _ _ _ _ _ _ _ _ _ _ _ _ _ _ _ _ _ _ _ _ _ _ _ _ _ _ _ _ _ _ _ _ _ _ _ _ _ _ _ _ _ _ _ _ _ _ _ _ _ _ _ _ _ _ _ _ _ _ _ _ _ _ _ _ _ _ _ _ _ _ hpA h23 h34 h4T hT4 hTV hV HA2 HA3 HA4 HKL HT HV HOL Hh Hok hobd S0 S1 S2 S3 HS LE HLE RE HRE key Hkey o1 o2 o3 Hold TT HTT OD HOD FO HFO FR CL HFR

set_option maxHeartbeats 4000000 in
set_option maxRecDepth 100000 in
theorem lay_34 (g n : Nat) (bs : List UInt8) (w : World) (hg : g < w.heap.size) (hbs : Bs w g bs) (Hn : Hid (bs.length = n)) (hmax : n ≤ 1048576) (f o : Int) (p A2 A3 A4 KL T V OL : Nat) (u16 u17 u18 u19 u20 u21 u22 u23 u24 u25 u26 u27 u28 u29 u30 u31 u32 u33 u34 u35 u36 u37 u38 u39 u40 u41 u42 u43 u44 u45 u46 u47 u48 u49 u50 u51 u52 u53 u54 u55 u56 u57 u58 u59 u60 u61 u62 u63 u64 u65 u66 u67 u68 u69 u70 u71 u72 u73 u74 u75 u76 u77 u78 u79 u80 u81 u82 u83 u84 u85 u86 u87 u88 u89 u90 u91 u92 u93 u94 u95 u96 u97 u98 u99 u100 u101 u102 u103 u104 u105 u106 u107 u108 u109 u110 u111 u112 u113 u114 u115 u116 u117 u118 u119 u120 u121 u122 u123 u124 u125 u126 u127 u128 u129 u130 u131 u132 u133 u134 u135 u136 u137 u138 u139 u140 u141 u142 u143 u144 u145 u146 u147 u148 u149 u150 u151 u152 u153 u154 u155 u156 u157 u158 u159 u160 u161 u162 u163 u164 u165 u166 u167 u168 u169 u170 u171 u172 u173 u174 u175 u176 u177 u178 u179 u180 u181 u182 u183 u184 u185 u186 u187 u188 u189 u190 u191 u192 u193 u194 u195 u196 u197 u198 u199 u200 u201 u202 u203 u204 u205 u206 u207 u208 u209 u210 u211 u212 u213 u214 u215 : Value)
    (hpA : p ≤ A2) (h23 : A2 ≤ A3) (h34 : A3 ≤ A4) (h4T : A4 + 2 + KL ≤ T) (hT4 : T ≤ A4 + 2 + KL) (hTV : T ≤ V) (hV : V ≤ n) (HA2 : Hid (A2 = q2 f p)) (HA3 : Hid (A3 = q3 f p)) (HA4 : Hid (A4 = q4 f p)) (HKL : Hid (KL = keyLen bs f p)) (HT : Hid (T = q6 bs f p)) (HV : Hid (V = q7 bs f o p)) (HOL : Hid (o = 4 → OL = oldLen bs f p)) (Hh : Hid (HeadRel bs f o p)) (Hok : Hid (¬ Bad bs f o p)) (hobd : 0 ≤ o ∧ o < 256)
    (S0 S1 S2 S3 : Nat) (HS : Hid (S0 = sess bs f p 0 ∧ S1 = sess bs f p 1 ∧ S2 = sess bs f p 2 ∧ S3 = sess bs f p 3)) (LE : Nat) (HLE : Hid (LE = leaseV bs f p)) (RE : Nat) (HRE : Hid (RE = revV bs f p)) (key : ByteArray) (Hkey : Hid (key = keyS bs f p)) (o1 : Option Addr) (o2 o3 : Nat) (Hold : Hid ((o = 4 ∧ IsSl g (T + 4) OL (.slice o1 o2 o3)) ∨ (o ≠ 4 ∧ Value.slice o1 o2 o3 = .slice none 0 0))) (TT : Nat) (HTT : Hid (TT = ttlV bs f o p)) (OD : Nat) (HOD : Hid (OD = opV 8 bs f o p 0)) :
    Code.wp Tryf.prog (dropS 34 (Tryf.f6.body.getD .skip)) (bodyPost Tryf.prog Tryf.f6 fun e w' => LayEnd w g bs e w') ⟨#[.slice (some ⟨g, 0, none⟩) n n, undef, .bool false, .pointer (some ⟨w.heap.size, 0, none⟩), .pointer (some ⟨w.heap.size + 1, 0, none⟩), .int .i64 (n : Int), .int .u8 f, .int .u8 o, .int .i64 (V : Int), .int .i64 (p : Int), .int .i64 (A2 : Int), .int .i64 (A3 : Int), .int .i64 (KL : Int), .int .i64 ((A4 : Int) + 2), .int .i64 (T : Int), .int .i64 (OL : Int), u16, u17, u18, u19, u20, u21, u22, u23, u24, u25, u26, u27, u28, u29, u30, u31, u32, u33, u34, u35, u36, u37, u38, u39, u40, u41, u42, u43, u44, u45, u46, u47, u48, u49, u50, u51, u52, u53, u54, u55, u56, u57, u58, u59, u60, u61, u62, u63, u64, u65, u66, u67, u68, u69, u70, u71, u72, u73, u74, u75, u76, u77, u78, u79, u80, u81, u82, u83, u84, u85, u86, u87, u88, u89, u90, u91, u92, u93, u94, u95, u96, u97, u98, u99, u100, u101, u102, u103, u104, u105, u106, u107, u108, u109, u110, u111, u112, u113, u114, u115, u116, u117, u118, u119, u120, u121, u122, u123, u124, u125, u126, u127, u128, u129, u130, u131, u132, u133, u134, u135, u136, u137, u138, u139, u140, u141, u142, u143, u144, u145, u146, u147, u148, u149, u150, u151, u152, u153, u154, u155, u156, u157, u158, u159, u160, u161, u162, u163, u164, u165, u166, u167, u168, u169, u170, u171, u172, u173, u174, u175, u176, u177, u178, u179, u180, u181, u182, u183, u184, u185, u186, u187, u188, u189, u190, u191, u192, u193, u194, u195, u196, u197, u198, u199, u200, u201, u202, u203, u204, u205, u206, u207, u208, u209, u210, u211, u212, u213, u214, u215], []⟩ ((w.alloc ZO).alloc (.cells (cmdA (.int .u8 o) (.string key) (.slice none 0 0) (.slice o1 o2 o3) (.int .u64 S0) (.int .u64 S1) (.int .i64 (wrap64 S2)) (.int .i64 (wrap64 S3)) (.int .u64 LE) (.int .i64 (TT : Int)) (.bool (flg f 8)) (.int .u64 RE) (.int .u64 (OD : Int)) (.int .u64 0) (.int .u64 0) (.int .i64 0)) 30)) := by
  conv => arg 2; whnf
  go_upto_if 194 with fail
  go_cut [] (fun wx => ∃ FO : Nat, Hid (FO = opV 9 bs f o p 0) ∧ wx = ((w.alloc ZO).alloc (.cells (cmdA (.int .u8 o) (.string key) (.slice none 0 0) (.slice o1 o2 o3) (.int .u64 S0) (.int .u64 S1) (.int .i64 (wrap64 S2)) (.int .i64 (wrap64 S3)) (.int .u64 LE) (.int .i64 (TT : Int)) (.bool (flg f 8)) (.int .u64 RE) (.int .u64 (OD : Int)) (.int .u64 (FO : Int)) (.int .u64 0) (.int .i64 0)) 30)))
  case first =>
    by_cases ho : o = 9
    · have Ho : Hid (o = 9) := ho
      have ho' : (o == 9) = true := by simp [ho]
      clear ho
      have htw : T + 8 ≤ V := by
        rw [HV.out, HT.out]; unfold q7 tailW; rw [Ho.out]; exact Nat.le_refl _
      go_wp2_with fail
      refine (zBE_any g n n bs (T) (T) 8 (by omega) _ (bs2 hbs hg _ _) Hn.out (by omega) (by omega) hmax).mono ?_
      rintro e w' ⟨rfl, rfl⟩
      obtain ⟨FO, eFO⟩ : ∃ FO : Nat, FO = be bs (T) 8 := ⟨_, rfl⟩
      rw [← eFO]
      have EFO : Hid (FO = be bs (T) 8) := eFO
      have lFO : FO < 256 ^ 8 := by rw [eFO]; exact be_lt bs (T) 8
      clear eFO
      go_wp2
      go_meet
      case rel =>
        refine ⟨FO, ?_, rfl⟩
        unfold Hid opV; rw [if_pos Ho.out, ← HT.out]; exact EFO.out
    · have Ho : Hid (¬ o = 9) := ho
      have ho' : (o == 9) = false := by simpa using ho
      clear ho
      go_wp2
      go_meet
      case rel =>
        refine ⟨0, ?_, rfl⟩
        unfold Hid opV; rw [if_neg Ho.out]
  case rest =>
  obtain ⟨FO, HFO, rfl⟩ := hcut
  go_step
  exact lay_35 g n bs w hg hbs Hn hmax f o p A2 A3 A4 KL T V OL _ _ _ _ _ _ _ _ _ _ _ _ _ _ _ _ _ _ _ _ _ _ _ _ _ _ _ _ _ _ _ _ _ _ _ _ _ _ _ _ _ _ _ _ _ _ _ _ _ _ _ _ _ _ _ _ _ _ _ _ _ _ _ _ _ _ _ _ _ _ _ _ _ _ _ _ _ _ _ _ _ _ _ _ _ _ _ _ _ _ _ _ _ _ _ _ _ _ _ _ _ _ _ _ _ _ _ _ _ _ _ _ _ _ _ _ _ _ _ _ _ _ _ _ _ _ _ _ _ _ _ _ _ _ _ _ _ _ _ _ _ _ _ _ _ _ _ _ _ _ _ _ _ _ _ _ _ _ _ _ _ _ _ _ _ _ _ _ _ _ _ _ _ _ _ _ _ _ _ _ _ _ _ _ _ _ _ _ _ _ _ _ _ _ _ _ _ _ _ _ hpA h23 h34 h4T hT4 hTV hV HA2 HA3 HA4 HKL HT HV HOL Hh Hok hobd S0 S1 S2 S3 HS LE HLE RE HRE key Hkey o1 o2 o3 Hold TT HTT OD HOD FO HFO

set_option maxHeartbeats 4000000 in
set_option maxRecDepth 100000 in
theorem lay_33 (g n : Nat) (bs : List UInt8) (w : World) (hg : g < w.heap.size) (hbs : Bs w g bs) (Hn : Hid (bs.length = n)) (hmax : n ≤ 1048576) (f o : Int) (p A2 A3 A4 KL T V OL : Nat) (u16 u17 u18 u19 u20 u21 u22 u23 u24 u25 u26 u27 u28 u29 u30 u31 u32 u33 u34 u35 u36 u37 u38 u39 u40 u41 u42 u43 u44 u45 u46 u47 u48 u49 u50 u51 u52 u53 u54 u55 u56 u57 u58 u59 u60 u61 u62 u63 u64 u65 u66 u67 u68 u69 u70 u71 u72 u73 u74 u75 u76 u77 u78 u79 u80 u81 u82 u83 u84 u85 u86 u87 u88 u89 u90 u91 u92 u93 u94 u95 u96 u97 u98 u99 u100 u101 u102 u103 u104 u105 u106 u107 u108 u109 u110 u111 u112 u113 u114 u115 u116 u117 u118 u119 u120 u121 u122 u123 u124 u125 u126 u127 u128 u129 u130 u131 u132 u133 u134 u135 u136 u137 u138 u139 u140 u141 u142 u143 u144 u145 u146 u147 u148 u149 u150 u151 u152 u153 u154 u155 u156 u157 u158 u159 u160 u161 u162 u163 u164 u165 u166 u167 u168 u169 u170 u171 u172 u173 u174 u175 u176 u177 u178 u179 u180 u181 u182 u183 u184 u185 u186 u187 u188 u189 u190 u191 u192 u193 u194 u195 u196 u197 u198 u199 u200 u201 u202 u203 u204 u205 u206 u207 u208 u209 u210 u211 u212 u213 u214 u215 : Value)
    (hpA : p ≤ A2) (h23 : A2 ≤ A3) (h34 : A3 ≤ A4) (h4T : A4 + 2 + KL ≤ T) (hT4 : T ≤ A4 + 2 + KL) (hTV : T ≤ V) (hV : V ≤ n) (HA2 : Hid (A2 = q2 f p)) (HA3 : Hid (A3 = q3 f p)) (HA4 : Hid (A4 = q4 f p)) (HKL : Hid (KL = keyLen bs f p)) (HT : Hid (T = q6 bs f p)) (HV : Hid (V = q7 bs f o p)) (HOL : Hid (o = 4 → OL = oldLen bs f p)) (Hh : Hid (HeadRel bs f o p)) (Hok : Hid (¬ Bad bs f o p)) (hobd : 0 ≤ o ∧ o < 256)
    (S0 S1 S2 S3 : Nat) (HS : Hid (S0 = sess bs f p 0 ∧ S1 = sess bs f p 1 ∧ S2 = sess bs f p 2 ∧ S3 = sess bs f p 3)) (LE : Nat) (HLE : Hid (LE = leaseV bs f p)) (RE : Nat) (HRE : Hid (RE = revV bs f p)) (key : ByteArray) (Hkey : Hid (key = keyS bs f p)) (o1 : Option Addr) (o2 o3 : Nat) (Hold : Hid ((o = 4 ∧ IsSl g (T + 4) OL (.slice o1 o2 o3)) ∨ (o ≠ 4 ∧ Value.slice o1 o2 o3 = .slice none 0 0))) (TT : Nat) (HTT : Hid (TT = ttlV bs f o p)) :
    Code.wp Tryf.prog (dropS 33 (Tryf.f6.body.getD .skip)) (bodyPost Tryf.prog Tryf.f6 fun e w' => LayEnd w g bs e w') ⟨#[.slice (some ⟨g, 0, none⟩) n n, undef, .bool false, .pointer (some ⟨w.heap.size, 0, none⟩), .pointer (some ⟨w.heap.size + 1, 0, none⟩), .int .i64 (n : Int), .int .u8 f, .int .u8 o, .int .i64 (V : Int), .int .i64 (p : Int), .int .i64 (A2 : Int), .int .i64 (A3 : Int), .int .i64 (KL : Int), .int .i64 ((A4 : Int) + 2), .int .i64 (T : Int), .int .i64 (OL : Int), u16, u17, u18, u19, u20, u21, u22, u23, u24, u25, u26, u27, u28, u29, u30, u31, u32, u33, u34, u35, u36, u37, u38, u39, u40, u41, u42, u43, u44, u45, u46, u47, u48, u49, u50, u51, u52, u53, u54, u55, u56, u57, u58, u59, u60, u61, u62, u63, u64, u65, u66, u67, u68, u69, u70, u71, u72, u73, u74, u75, u76, u77, u78, u79, u80, u81, u82, u83, u84, u85, u86, u87, u88, u89, u90, u91, u92, u93, u94, u95, u96, u97, u98, u99, u100, u101, u102, u103, u104, u105, u106, u107, u108, u109, u110, u111, u112, u113, u114, u115, u116, u117, u118, u119, u120, u121, u122, u123, u124, u125, u126, u127, u128, u129, u130, u131, u132, u133, u134, u135, u136, u137, u138, u139, u140, u141, u142, u143, u144, u145, u146, u147, u148, u149, u150, u151, u152, u153, u154, u155, u156, u157, u158, u159, u160, u161, u162, u163, u164, u165, u166, u167, u168, u169, u170, u171, u172, u173, u174, u175, u176, u177, u178, u179, u180, u181, u182, u183, u184, u185, u186, u187, u188, u189, u190, u191, u192, u193, u194, u195, u196, u197, u198, u199, u200, u201, u202, u203, u204, u205, u206, u207, u208, u209, u210, u211, u212, u213, u214, u215], []⟩ ((w.alloc ZO).alloc (.cells (cmdA (.int .u8 o) (.string key) (.slice none 0 0) (.slice o1 o2 o3) (.int .u64 S0) (.int .u64 S1) (.int .i64 (wrap64 S2)) (.int .i64 (wrap64 S3)) (.int .u64 LE) (.int .i64 (TT : Int)) (.bool (flg f 8)) (.int .u64 RE) (.int .u64 0) (.int .u64 0) (.int .u64 0) (.int .i64 0)) 30)) := by
  conv => arg 2; whnf
  go_upto_if 188 with fail
  go_cut [] (fun wx => ∃ OD : Nat, Hid (OD = opV 8 bs f o p 0) ∧ wx = ((w.alloc ZO).alloc (.cells (cmdA (.int .u8 o) (.string key) (.slice none 0 0) (.slice o1 o2 o3) (.int .u64 S0) (.int .u64 S1) (.int .i64 (wrap64 S2)) (.int .i64 (wrap64 S3)) (.int .u64 LE) (.int .i64 (TT : Int)) (.bool (flg f 8)) (.int .u64 RE) (.int .u64 (OD : Int)) (.int .u64 0) (.int .u64 0) (.int .i64 0)) 30)))
  case first =>
    by_cases ho : o = 8
    · have Ho : Hid (o = 8) := ho
      have ho' : (o == 8) = true := by simp [ho]
      clear ho
      have htw : T + 8 ≤ V := by
        rw [HV.out, HT.out]; unfold q7 tailW; rw [Ho.out]; exact Nat.le_refl _
      go_wp2_with fail
      refine (zBE_any g n n bs (T) (T) 8 (by omega) _ (bs2 hbs hg _ _) Hn.out (by omega) (by omega) hmax).mono ?_
      rintro e w' ⟨rfl, rfl⟩
      obtain ⟨OD, eOD⟩ : ∃ OD : Nat, OD = be bs (T) 8 := ⟨_, rfl⟩
      rw [← eOD]
      have EOD : Hid (OD = be bs (T) 8) := eOD
      have lOD : OD < 256 ^ 8 := by rw [eOD]; exact be_lt bs (T) 8
      clear eOD
      go_wp2
      go_meet
      case rel =>
        refine ⟨OD, ?_, rfl⟩
        unfold Hid opV; rw [if_pos Ho.out, ← HT.out]; exact EOD.out
    · have Ho : Hid (¬ o = 8) := ho
      have ho' : (o == 8) = false := by simpa using ho
      clear ho
      go_wp2
      go_meet
      case rel =>
        refine ⟨0, ?_, rfl⟩
        unfold Hid opV; rw [if_neg Ho.out]
  case rest =>
  obtain ⟨OD, HOD, rfl⟩ := hcut
  go_step
  exact lay_34 g n bs w hg hbs Hn hmax f o p A2 A3 A4 KL T V OL _ _ _ _ _ _ _ _ _ _ _ _ _ _ _ _ _ _ _ _ _ _ _ _ _ _ _ _ _ _ _ _ _ _ _ _ _ _ _ _ _ _ _ _ _ _ _ _ _ _ _ _ _ _ _ _ _ _ _ _ _ _ _ _ _ _ _ _ _ _ _ _ _ _ _ _ _ _ _ _ _ _ _ _ _ _ _ _ _ _ _ _ _ _ _ _ _ _ _ _ _ _ _ _ _ _ _ _ _ _ _ _ _ _ _ _ _ _ _ _ _ _ _ _ _ _ _ _ _ _ _ _ _ _ _ _ _ _ _ _ _ _ _ _ _ _ _ _ _ _ _ _ _ _ _ _ _ _ _ _ _ _ _ _ _ _ _ _ _ _ _ _ _ _ _ _ _ _ _ _ _ _ _ _ _ _ _ _ _ _ _ _ _ _ _ _ _ _ _ _ hpA h23 h34 h4T hT4 hTV hV HA2 HA3 HA4 HKL HT HV HOL Hh Hok hobd S0 S1 S2 S3 HS LE HLE RE HRE key Hkey o1 o2 o3 Hold TT HTT OD HOD

set_option maxHeartbeats 4000000 in
set_option maxRecDepth 100000 in
theorem lay_32 (g n : Nat) (bs : List UInt8) (w : World) (hg : g < w.heap.size) (hbs : Bs w g bs) (Hn : Hid (bs.length = n)) (hmax : n ≤ 1048576) (f o : Int) (p A2 A3 A4 KL T V OL : Nat) (u16 u17 u18 u19 u20 u21 u22 u23 u24 u25 u26 u27 u28 u29 u30 u31 u32 u33 u34 u35 u36 u37 u38 u39 u40 u41 u42 u43 u44 u45 u46 u47 u48 u49 u50 u51 u52 u53 u54 u55 u56 u57 u58 u59 u60 u61 u62 u63 u64 u65 u66 u67 u68 u69 u70 u71 u72 u73 u74 u75 u76 u77 u78 u79 u80 u81 u82 u83 u84 u85 u86 u87 u88 u89 u90 u91 u92 u93 u94 u95 u96 u97 u98 u99 u100 u101 u102 u103 u104 u105 u106 u107 u108 u109 u110 u111 u112 u113 u114 u115 u116 u117 u118 u119 u120 u121 u122 u123 u124 u125 u126 u127 u128 u129 u130 u131 u132 u133 u134 u135 u136 u137 u138 u139 u140 u141 u142 u143 u144 u145 u146 u147 u148 u149 u150 u151 u152 u153 u154 u155 u156 u157 u158 u159 u160 u161 u162 u163 u164 u165 u166 u167 u168 u169 u170 u171 u172 u173 u174 u175 u176 u177 u178 u179 u180 u181 u182 u183 u184 u185 u186 u187 u188 u189 u190 u191 u192 u193 u194 u195 u196 u197 u198 u199 u200 u201 u202 u203 u204 u205 u206 u207 u208 u209 u210 u211 u212 u213 u214 u215 : Value)
    (hpA : p ≤ A2) (h23 : A2 ≤ A3) (h34 : A3 ≤ A4) (h4T : A4 + 2 + KL ≤ T) (hT4 : T ≤ A4 + 2 + KL) (hTV : T ≤ V) (hV : V ≤ n) (HA2 : Hid (A2 = q2 f p)) (HA3 : Hid (A3 = q3 f p)) (HA4 : Hid (A4 = q4 f p)) (HKL : Hid (KL = keyLen bs f p)) (HT : Hid (T = q6 bs f p)) (HV : Hid (V = q7 bs f o p)) (HOL : Hid (o = 4 → OL = oldLen bs f p)) (Hh : Hid (HeadRel bs f o p)) (Hok : Hid (¬ Bad bs f o p)) (hobd : 0 ≤ o ∧ o < 256)
    (S0 S1 S2 S3 : Nat) (HS : Hid (S0 = sess bs f p 0 ∧ S1 = sess bs f p 1 ∧ S2 = sess bs f p 2 ∧ S3 = sess bs f p 3)) (LE : Nat) (HLE : Hid (LE = leaseV bs f p)) (RE : Nat) (HRE : Hid (RE = revV bs f p)) (key : ByteArray) (Hkey : Hid (key = keyS bs f p)) (o1 : Option Addr) (o2 o3 : Nat) (Hold : Hid ((o = 4 ∧ IsSl g (T + 4) OL (.slice o1 o2 o3)) ∨ (o ≠ 4 ∧ Value.slice o1 o2 o3 = .slice none 0 0))) :
    Code.wp Tryf.prog (dropS 32 (Tryf.f6.body.getD .skip)) (bodyPost Tryf.prog Tryf.f6 fun e w' => LayEnd w g bs e w') ⟨#[.slice (some ⟨g, 0, none⟩) n n, undef, .bool false, .pointer (some ⟨w.heap.size, 0, none⟩), .pointer (some ⟨w.heap.size + 1, 0, none⟩), .int .i64 (n : Int), .int .u8 f, .int .u8 o, .int .i64 (V : Int), .int .i64 (p : Int), .int .i64 (A2 : Int), .int .i64 (A3 : Int), .int .i64 (KL : Int), .int .i64 ((A4 : Int) + 2), .int .i64 (T : Int), .int .i64 (OL : Int), u16, u17, u18, u19, u20, u21, u22, u23, u24, u25, u26, u27, u28, u29, u30, u31, u32, u33, u34, u35, u36, u37, u38, u39, u40, u41, u42, u43, u44, u45, u46, u47, u48, u49, u50, u51, u52, u53, u54, u55, u56, u57, u58, u59, u60, u61, u62, u63, u64, u65, u66, u67, u68, u69, u70, u71, u72, u73, u74, u75, u76, u77, u78, u79, u80, u81, u82, u83, u84, u85, u86, u87, u88, u89, u90, u91, u92, u93, u94, u95, u96, u97, u98, u99, u100, u101, u102, u103, u104, u105, u106, u107, u108, u109, u110, u111, u112, u113, u114, u115, u116, u117, u118, u119, u120, u121, u122, u123, u124, u125, u126, u127, u128, u129, u130, u131, u132, u133, u134, u135, u136, u137, u138, u139, u140, u141, u142, u143, u144, u145, u146, u147, u148, u149, u150, u151, u152, u153, u154, u155, u156, u157, u158, u159, u160, u161, u162, u163, u164, u165, u166, u167, u168, u169, u170, u171, u172, u173, u174, u175, u176, u177, u178, u179, u180, u181, u182, u183, u184, u185, u186, u187, u188, u189, u190, u191, u192, u193, u194, u195, u196, u197, u198, u199, u200, u201, u202, u203, u204, u205, u206, u207, u208, u209, u210, u211, u212, u213, u214, u215], []⟩ ((w.alloc ZO).alloc (.cells (cmdA (.int .u8 o) (.string key) (.slice none 0 0) (.slice o1 o2 o3) (.int .u64 S0) (.int .u64 S1) (.int .i64 (wrap64 S2)) (.int .i64 (wrap64 S3)) (.int .u64 LE) (.int .i64 0) (.bool (flg f 8)) (.int .u64 RE) (.int .u64 0) (.int .u64 0) (.int .u64 0) (.int .i64 0)) 30)) := by
  conv => arg 2; whnf
  go_upto_if 181 with fail
  go_cut [] (fun wx => ∃ TT : Nat, Hid (TT = ttlV bs f o p) ∧ wx = ((w.alloc ZO).alloc (.cells (cmdA (.int .u8 o) (.string key) (.slice none 0 0) (.slice o1 o2 o3) (.int .u64 S0) (.int .u64 S1) (.int .i64 (wrap64 S2)) (.int .i64 (wrap64 S3)) (.int .u64 LE) (.int .i64 (TT : Int)) (.bool (flg f 8)) (.int .u64 RE) (.int .u64 0) (.int .u64 0) (.int .u64 0) (.int .i64 0)) 30)))
  case first =>
    by_cases ho : o = 5
    · have Ho : Hid (o = 5) := ho
      have ho' : (o == 5) = true := by simp [ho]
      clear ho
      have htw : T + 4 ≤ V := by
        rw [HV.out, HT.out]; unfold q7 tailW; rw [Ho.out]; exact Nat.le_refl _
      go_wp2_with fail
      refine (zBE_any g n n bs (T) (T) 4 (by omega) _ (bs2 hbs hg _ _) Hn.out (by omega) (by omega) hmax).mono ?_
      rintro e w' ⟨rfl, rfl⟩
      obtain ⟨TT, eTT⟩ : ∃ TT : Nat, TT = be bs (T) 4 := ⟨_, rfl⟩
      rw [← eTT]
      have ETT : Hid (TT = be bs (T) 4) := eTT
      have lTT : TT < 256 ^ 4 := by rw [eTT]; exact be_lt bs (T) 4
      clear eTT
      have lTT' : TT < 4294967296 := lTT
      clear lTT
      go_wp2
      go_meet
      case rel =>
        refine ⟨TT, ?_, rfl⟩
        unfold Hid ttlV; rw [if_pos Ho.out, ← HT.out]; exact ETT.out
    · have Ho : Hid (¬ o = 5) := ho
      have ho' : (o == 5) = false := by simpa using ho
      clear ho
      go_wp2
      go_meet
      case rel =>
        refine ⟨0, ?_, rfl⟩
        unfold Hid ttlV; rw [if_neg Ho.out]
  case rest =>
  obtain ⟨TT, HTT, rfl⟩ := hcut
  go_step
  exact lay_33 g n bs w hg hbs Hn hmax f o p A2 A3 A4 KL T V OL _ _ _ _ _ _ _ _ _ _ _ _ _ _ _ _ _ _ _ _ _ _ _ _ _ _ _ _ _ _ _ _ _ _ _ _ _ _ _ _ _ _ _ _ _ _ _ _ _ _ _ _ _ _ _ _ _ _ _ _ _ _ _ _ _ _ _ _ _ _ _ _ _ _ _ _ _ _ _ _ _ _ _ _ _ _ _ _ _ _ _ _ _ _ _ _ _ _ _ _ _ _ _ _ _ _ _ _ _ _ _ _ _ _ _ _ _ _ _ _ _ _ _ _ _ _ _ _ _ _ _ _ _ _ _ _ _ _ _ _ _ _ _ _ _ _ _ _ _ _ _ _ _ _ _ _ _ _ _ _ _ _ _ _ _ _ _ _ _ _ _ _ _ _ _ _ _ _ _ _ _ _ _ _ _ _ _ _ _ _ _ _ _ _ _ _ _ _ _ _ hpA h23 h34 h4T hT4 hTV hV HA2 HA3 HA4 HKL HT HV HOL Hh Hok hobd S0 S1 S2 S3 HS LE HLE RE HRE key Hkey o1 o2 o3 Hold TT HTT

set_option maxHeartbeats 4000000 in
set_option maxRecDepth 100000 in
theorem lay_31 (g n : Nat) (bs : List UInt8) (w : World) (hg : g < w.heap.size) (hbs : Bs w g bs) (Hn : Hid (bs.length = n)) (hmax : n ≤ 1048576) (f o : Int) (p A2 A3 A4 KL T V OL : Nat) (u16 u17 u18 u19 u20 u21 u22 u23 u24 u25 u26 u27 u28 u29 u30 u31 u32 u33 u34 u35 u36 u37 u38 u39 u40 u41 u42 u43 u44 u45 u46 u47 u48 u49 u50 u51 u52 u53 u54 u55 u56 u57 u58 u59 u60 u61 u62 u63 u64 u65 u66 u67 u68 u69 u70 u71 u72 u73 u74 u75 u76 u77 u78 u79 u80 u81 u82 u83 u84 u85 u86 u87 u88 u89 u90 u91 u92 u93 u94 u95 u96 u97 u98 u99 u100 u101 u102 u103 u104 u105 u106 u107 u108 u109 u110 u111 u112 u113 u114 u115 u116 u117 u118 u119 u120 u121 u122 u123 u124 u125 u126 u127 u128 u129 u130 u131 u132 u133 u134 u135 u136 u137 u138 u139 u140 u141 u142 u143 u144 u145 u146 u147 u148 u149 u150 u151 u152 u153 u154 u155 u156 u157 u158 u159 u160 u161 u162 u163 u164 u165 u166 u167 u168 u169 u170 u171 u172 u173 u174 u175 u176 u177 u178 u179 u180 u181 u182 u183 u184 u185 u186 u187 u188 u189 u190 u191 u192 u193 u194 u195 u196 u197 u198 u199 u200 u201 u202 u203 u204 u205 u206 u207 u208 u209 u210 u211 u212 u213 u214 u215 : Value)
    (hpA : p ≤ A2) (h23 : A2 ≤ A3) (h34 : A3 ≤ A4) (h4T : A4 + 2 + KL ≤ T) (hT4 : T ≤ A4 + 2 + KL) (hTV : T ≤ V) (hV : V ≤ n) (HA2 : Hid (A2 = q2 f p)) (HA3 : Hid (A3 = q3 f p)) (HA4 : Hid (A4 = q4 f p)) (HKL : Hid (KL = keyLen bs f p)) (HT : Hid (T = q6 bs f p)) (HV : Hid (V = q7 bs f o p)) (HOL : Hid (o = 4 → OL = oldLen bs f p)) (Hh : Hid (HeadRel bs f o p)) (Hok : Hid (¬ Bad bs f o p)) (hobd : 0 ≤ o ∧ o < 256)
    (S0 S1 S2 S3 : Nat) (HS : Hid (S0 = sess bs f p 0 ∧ S1 = sess bs f p 1 ∧ S2 = sess bs f p 2 ∧ S3 = sess bs f p 3)) (LE : Nat) (HLE : Hid (LE = leaseV bs f p)) (RE : Nat) (HRE : Hid (RE = revV bs f p)) (key : ByteArray) (Hkey : Hid (key = keyS bs f p)) :
    Code.wp Tryf.prog (dropS 31 (Tryf.f6.body.getD .skip)) (bodyPost Tryf.prog Tryf.f6 fun e w' => LayEnd w g bs e w') ⟨#[.slice (some ⟨g, 0, none⟩) n n, undef, .bool false, .pointer (some ⟨w.heap.size, 0, none⟩), .pointer (some ⟨w.heap.size + 1, 0, none⟩), .int .i64 (n : Int), .int .u8 f, .int .u8 o, .int .i64 (V : Int), .int .i64 (p : Int), .int .i64 (A2 : Int), .int .i64 (A3 : Int), .int .i64 (KL : Int), .int .i64 ((A4 : Int) + 2), .int .i64 (T : Int), .int .i64 (OL : Int), u16, u17, u18, u19, u20, u21, u22, u23, u24, u25, u26, u27, u28, u29, u30, u31, u32, u33, u34, u35, u36, u37, u38, u39, u40, u41, u42, u43, u44, u45, u46, u47, u48, u49, u50, u51, u52, u53, u54, u55, u56, u57, u58, u59, u60, u61, u62, u63, u64, u65, u66, u67, u68, u69, u70, u71, u72, u73, u74, u75, u76, u77, u78, u79, u80, u81, u82, u83, u84, u85, u86, u87, u88, u89, u90, u91, u92, u93, u94, u95, u96, u97, u98, u99, u100, u101, u102, u103, u104, u105, u106, u107, u108, u109, u110, u111, u112, u113, u114, u115, u116, u117, u118, u119, u120, u121, u122, u123, u124, u125, u126, u127, u128, u129, u130, u131, u132, u133, u134, u135, u136, u137, u138, u139, u140, u141, u142, u143, u144, u145, u146, u147, u148, u149, u150, u151, u152, u153, u154, u155, u156, u157, u158, u159, u160, u161, u162, u163, u164, u165, u166, u167, u168, u169, u170, u171, u172, u173, u174, u175, u176, u177, u178, u179, u180, u181, u182, u183, u184, u185, u186, u187, u188, u189, u190, u191, u192, u193, u194, u195, u196, u197, u198, u199, u200, u201, u202, u203, u204, u205, u206, u207, u208, u209, u210, u211, u212, u213, u214, u215], []⟩ ((w.alloc ZO).alloc (.cells (cmdA (.int .u8 o) (.string key) (.slice none 0 0) (.slice none 0 0) (.int .u64 S0) (.int .u64 S1) (.int .i64 (wrap64 S2)) (.int .i64 (wrap64 S3)) (.int .u64 LE) (.int .i64 0) (.bool (flg f 8)) (.int .u64 RE) (.int .u64 0) (.int .u64 0) (.int .u64 0) (.int .i64 0)) 30)) := by
  conv => arg 2; whnf
  go_upto_if 170 with fail
  go_cut [] (fun wx => ∃ (o1 : Option Addr) (o2 o3 : Nat), Hid ((o = 4 ∧ IsSl g (T + 4) OL (.slice o1 o2 o3)) ∨ (o ≠ 4 ∧ Value.slice o1 o2 o3 = .slice none 0 0)) ∧ wx = ((w.alloc ZO).alloc (.cells (cmdA (.int .u8 o) (.string key) (.slice none 0 0) (.slice o1 o2 o3) (.int .u64 S0) (.int .u64 S1) (.int .i64 (wrap64 S2)) (.int .i64 (wrap64 S3)) (.int .u64 LE) (.int .i64 0) (.bool (flg f 8)) (.int .u64 RE) (.int .u64 0) (.int .u64 0) (.int .u64 0) (.int .i64 0)) 30)))
  case first =>
    by_cases ho : o = 4
    · have Ho : Hid (o = 4) := ho
      have ho' : (o == 4) = true := by simp [ho]
      clear ho
      have htw : V = T + (4 + OL) := by
        rw [HV.out, HT.out, HOL.out Ho.out]; unfold q7 tailW; rw [Ho.out]; rfl
      have HW : Hid (V = T + (4 + OL)) := htw
      have hle1 : T + 4 + OL ≤ n := by omega
      clear htw
      by_cases hn4 : n = T + 4
      · go_wp2
        go_meet
        case rel => exact ⟨_, _, _, .inl ⟨Ho.out, ⟨_, _, rfl, fun h => by have := HW.out; omega⟩⟩, rfl⟩
      · go_wp2
        go_meet
        case rel => exact ⟨_, _, _, .inl ⟨Ho.out, ⟨_, _, rfl, fun h => rfl⟩⟩, rfl⟩
    · have Ho : Hid (¬ o = 4) := ho
      have ho' : (o == 4) = false := by simpa using ho
      clear ho
      go_wp2
      go_meet
      case rel => exact ⟨none, 0, 0, .inr ⟨Ho.out, rfl⟩, rfl⟩
  case rest =>
  obtain ⟨o1, o2, o3, Hold, rfl⟩ := hcut
  go_step
  exact lay_32 g n bs w hg hbs Hn hmax f o p A2 A3 A4 KL T V OL _ _ _ _ _ _ _ _ _ _ _ _ _ _ _ _ _ _ _ _ _ _ _ _ _ _ _ _ _ _ _ _ _ _ _ _ _ _ _ _ _ _ _ _ _ _ _ _ _ _ _ _ _ _ _ _ _ _ _ _ _ _ _ _ _ _ _ _ _ _ _ _ _ _ _ _ _ _ _ _ _ _ _ _ _ _ _ _ _ _ _ _ _ _ _ _ _ _ _ _ _ _ _ _ _ _ _ _ _ _ _ _ _ _ _ _ _ _ _ _ _ _ _ _ _ _ _ _ _ _ _ _ _ _ _ _ _ _ _ _ _ _ _ _ _ _ _ _ _ _ _ _ _ _ _ _ _ _ _ _ _ _ _ _ _ _ _ _ _ _ _ _ _ _ _ _ _ _ _ _ _ _ _ _ _ _ _ _ _ _ _ _ _ _ _ _ _ _ _ _ hpA h23 h34 h4T hT4 hTV hV HA2 HA3 HA4 HKL HT HV HOL Hh Hok hobd S0 S1 S2 S3 HS LE HLE RE HRE key Hkey o1 o2 o3 Hold

end Go.Proofs.Qxb6614561aFmt
