/-
  THE WALK of zLayout: the head fields.
-/
import Derived.Test.Qxb6614561aFmtLayB
namespace Go.Proofs.Qxb6614561aFmt
open Go Go.RowKit Go.Extern.Stop Go.Stop Go.Extern
set_option linter.unusedVariables false

/-- The key's bytes as a string. -/
theorem conv_key {w : World} {g : Nat} {bs : List UInt8} (hb : Bs w g bs) (P K q c : Nat) (h : P + K ≤ bs.length) (hq : 0 < K → q = P) :
    (convert 22 9 (.slice (some ⟨g, q, none⟩) K c)).run Tryf.prog w = .ok (.string ⟨((bs.drop P).take K).toArray⟩) w := by
  have hl : ((bs.drop P).take K).length = K := by simp; omega
  have := run_convert_bytes_back (P := Tryf.prog) w 22 9 5 ⟨g, q, none⟩ c ((bs.drop P).take K) Tryf.underlying22 Tryf.underlying5 Tryf.underlying9 (fun j hj => by
    rw [hl] at hj
    obtain rfl := hq (by omega)
    have h1 := hb (q + j) (by omega)
    rw [WideShapes.add_plain, h1]
    simp)
  rwa [hl] at this

set_option maxHeartbeats 4000000 in
set_option maxRecDepth 100000 in
theorem lay_29 (g n : Nat) (bs : List UInt8) (w : World) (hg : g < w.heap.size) (hbs : Bs w g bs) (Hn : Hid (bs.length = n)) (hmax : n ≤ 1048576) (f o : Int) (p A2 A3 A4 KL T V OL : Nat) (u16 u17 u18 u19 u20 u21 u22 u23 u24 u25 u26 u27 u28 u29 u30 u31 u32 u33 u34 u35 u36 u37 u38 u39 u40 u41 u42 u43 u44 u45 u46 u47 u48 u49 u50 u51 u52 u53 u54 u55 u56 u57 u58 u59 u60 u61 u62 u63 u64 u65 u66 u67 u68 u69 u70 u71 u72 u73 u74 u75 u76 u77 u78 u79 u80 u81 u82 u83 u84 u85 u86 u87 u88 u89 u90 u91 u92 u93 u94 u95 u96 u97 u98 u99 u100 u101 u102 u103 u104 u105 u106 u107 u108 u109 u110 u111 u112 u113 u114 u115 u116 u117 u118 u119 u120 u121 u122 u123 u124 u125 u126 u127 u128 u129 u130 u131 u132 u133 u134 u135 u136 u137 u138 u139 u140 u141 u142 u143 u144 u145 u146 u147 u148 u149 u150 u151 u152 u153 u154 u155 u156 u157 u158 u159 u160 u161 u162 u163 u164 u165 u166 u167 u168 u169 u170 u171 u172 u173 u174 u175 u176 u177 u178 u179 u180 u181 u182 u183 u184 u185 u186 u187 u188 u189 u190 u191 u192 u193 u194 u195 u196 u197 u198 u199 u200 u201 u202 u203 u204 u205 u206 u207 u208 u209 u210 u211 u212 u213 u214 u215 : Value)
    (hpA : p ≤ A2) (h23 : A2 ≤ A3) (h34 : A3 ≤ A4) (h4T : A4 + 2 + KL ≤ T) (hT4 : T ≤ A4 + 2 + KL) (hTV : T ≤ V) (hV : V ≤ n) (HA2 : Hid (A2 = q2 f p)) (HA3 : Hid (A3 = q3 f p)) (HA4 : Hid (A4 = q4 f p)) (HKL : Hid (KL = keyLen bs f p)) (HT : Hid (T = q6 bs f p)) (HV : Hid (V = q7 bs f o p)) (HOL : Hid (o = 4 → OL = oldLen bs f p)) (Hh : Hid (HeadRel bs f o p)) (Hok : Hid (¬ Bad bs f o p)) (hobd : 0 ≤ o ∧ o < 256)
    (S0 S1 S2 S3 : Nat) (HS : Hid (S0 = sess bs f p 0 ∧ S1 = sess bs f p 1 ∧ S2 = sess bs f p 2 ∧ S3 = sess bs f p 3)) (LE : Nat) (HLE : Hid (LE = leaseV bs f p)) :
    Code.wp Tryf.prog (dropS 29 (Tryf.f6.body.getD .skip)) (bodyPost Tryf.prog Tryf.f6 fun e w' => LayEnd w g bs e w') ⟨#[.slice (some ⟨g, 0, none⟩) n n, undef, .bool false, .pointer (some ⟨w.heap.size, 0, none⟩), .pointer (some ⟨w.heap.size + 1, 0, none⟩), .int .i64 (n : Int), .int .u8 f, .int .u8 o, .int .i64 (V : Int), .int .i64 (p : Int), .int .i64 (A2 : Int), .int .i64 (A3 : Int), .int .i64 (KL : Int), .int .i64 ((A4 : Int) + 2), .int .i64 (T : Int), .int .i64 (OL : Int), u16, u17, u18, u19, u20, u21, u22, u23, u24, u25, u26, u27, u28, u29, u30, u31, u32, u33, u34, u35, u36, u37, u38, u39, u40, u41, u42, u43, u44, u45, u46, u47, u48, u49, u50, u51, u52, u53, u54, u55, u56, u57, u58, u59, u60, u61, u62, u63, u64, u65, u66, u67, u68, u69, u70, u71, u72, u73, u74, u75, u76, u77, u78, u79, u80, u81, u82, u83, u84, u85, u86, u87, u88, u89, u90, u91, u92, u93, u94, u95, u96, u97, u98, u99, u100, u101, u102, u103, u104, u105, u106, u107, u108, u109, u110, u111, u112, u113, u114, u115, u116, u117, u118, u119, u120, u121, u122, u123, u124, u125, u126, u127, u128, u129, u130, u131, u132, u133, u134, u135, u136, u137, u138, u139, u140, u141, u142, u143, u144, u145, u146, u147, u148, u149, u150, u151, u152, u153, u154, u155, u156, u157, u158, u159, u160, u161, u162, u163, u164, u165, u166, u167, u168, u169, u170, u171, u172, u173, u174, u175, u176, u177, u178, u179, u180, u181, u182, u183, u184, u185, u186, u187, u188, u189, u190, u191, u192, u193, u194, u195, u196, u197, u198, u199, u200, u201, u202, u203, u204, u205, u206, u207, u208, u209, u210, u211, u212, u213, u214, u215], []⟩ ((w.alloc ZO).alloc (.cells (cmdA (.int .u8 o) (.string ⟨#[]⟩) (.slice none 0 0) (.slice none 0 0) (.int .u64 S0) (.int .u64 S1) (.int .i64 (wrap64 S2)) (.int .i64 (wrap64 S3)) (.int .u64 LE) (.int .i64 0) (.bool false) (.int .u64 0) (.int .u64 0) (.int .u64 0) (.int .u64 0) (.int .i64 0)) 30)) := by
  conv => arg 2; whnf
  go_upto_if 155 with fail
  go_cut [] (fun wx => ∃ RE : Nat, Hid (RE = revV bs f p) ∧ wx = ((w.alloc ZO).alloc (.cells (cmdA (.int .u8 o) (.string ⟨#[]⟩) (.slice none 0 0) (.slice none 0 0) (.int .u64 S0) (.int .u64 S1) (.int .i64 (wrap64 S2)) (.int .i64 (wrap64 S3)) (.int .u64 LE) (.int .i64 0) (.bool (flg f 8)) (.int .u64 RE) (.int .u64 0) (.int .u64 0) (.int .u64 0) (.int .i64 0)) 30)))
  case first =>
    cases hfl : (bits BinOp.and IntKind.u8 f 8 != 0)
    · have Hff : Hid (flg f 8 = false) := by unfold Hid flg; exact hfl
      go_wp2
      go_meet
      case rel =>
        refine ⟨0, ?_, ?_⟩
        · unfold Hid revV; rw [if_neg (by rw [Hff.out]; simp)]
        · rw [Hff.out]; rfl
    · have Hfl : Hid (flg f 8 = true) := hfl
      have hq : A3 + 8 ≤ A4 := by rw [HA4.out, HA3.out]; unfold q4; rw [if_pos Hfl.out]; exact Nat.le_refl _
      go_wp2_with fail
      refine (zBE_any g n n bs (A3) (A3) 8 (by omega) _ (bs2 hbs hg _ _) Hn.out (by omega) (by omega) hmax).mono ?_
      rintro e w' ⟨rfl, rfl⟩
      obtain ⟨RE, eRE⟩ : ∃ RE : Nat, RE = be bs (A3) 8 := ⟨_, rfl⟩
      rw [← eRE]
      have ERE : Hid (RE = be bs (A3) 8) := eRE
      have lRE : RE < 256 ^ 8 := by rw [eRE]; exact be_lt bs (A3) 8
      clear eRE
      go_wp2
      go_meet
      case rel =>
        refine ⟨RE, ?_, ?_⟩
        · unfold Hid revV; rw [if_pos Hfl.out, ← HA3.out]; exact ERE.out
        · rw [Hfl.out]
  case rest =>
  obtain ⟨RE, HRE, rfl⟩ := hcut
  go_upto_region 57 with fail
  go_cut [] (fun wx => ∃ key : ByteArray, Hid (key = keyS bs f p) ∧ wx = ((w.alloc ZO).alloc (.cells (cmdA (.int .u8 o) (.string key) (.slice none 0 0) (.slice none 0 0) (.int .u64 S0) (.int .u64 S1) (.int .i64 (wrap64 S2)) (.int .i64 (wrap64 S3)) (.int .u64 LE) (.int .i64 0) (.bool (flg f 8)) (.int .u64 RE) (.int .u64 0) (.int .u64 0) (.int .u64 0) (.int .i64 0)) 30)))
  case first =>
    obtain ⟨key, hkey⟩ : ∃ key : ByteArray, key = ⟨((bs.drop (A4 + 2)).take KL).toArray⟩ := ⟨_, rfl⟩
    have hcv : ∀ q c, (0 < KL → q = A4 + 2) → (convert 22 9 (.slice (some ⟨g, q, none⟩) KL c)).run Tryf.prog ((w.alloc ZO).alloc (.cells (cmdA (.int .u8 o) (.string ⟨#[]⟩) (.slice none 0 0) (.slice none 0 0) (.int .u64 S0) (.int .u64 S1) (.int .i64 (wrap64 S2)) (.int .i64 (wrap64 S3)) (.int .u64 LE) (.int .i64 0) (.bool (flg f 8)) (.int .u64 RE) (.int .u64 0) (.int .u64 0) (.int .u64 0) (.int .i64 0)) 30)) = .ok (.string key) ((w.alloc ZO).alloc (.cells (cmdA (.int .u8 o) (.string ⟨#[]⟩) (.slice none 0 0) (.slice none 0 0) (.int .u64 S0) (.int .u64 S1) (.int .i64 (wrap64 S2)) (.int .i64 (wrap64 S3)) (.int .u64 LE) (.int .i64 0) (.bool (flg f 8)) (.int .u64 RE) (.int .u64 0) (.int .u64 0) (.int .u64 0) (.int .i64 0)) 30)) := fun q c h => by
      rw [hkey]; exact conv_key (bs2 hbs hg _ _) _ _ _ _ (by rw [Hn.out]; omega) h
    have Hkey : Hid (key = keyS bs f p) := by rw [hkey]; unfold keyS; rw [← HA4.out, ← HKL.out]; rfl
    clear hkey
    by_cases hn4 : n = A4 + 2
    · have hcv1 := fun q c => hcv q c (fun h => by omega)
      clear hcv
      go_wp2
      go_meet
      case rel => exact ⟨key, Hkey, rfl⟩
    · have hcv1 := fun c => hcv (A4 + 2) c (fun _ => rfl)
      clear hcv
      go_wp2
      go_meet
      case rel => exact ⟨key, Hkey, rfl⟩
  case rest =>
  obtain ⟨key, Hkey, rfl⟩ := hcut
  go_step
  exact lay_31 g n bs w hg hbs Hn hmax f o p A2 A3 A4 KL T V OL _ _ _ _ _ _ _ _ _ _ _ _ _ _ _ _ _ _ _ _ _ _ _ _ _ _ _ _ _ _ _ _ _ _ _ _ _ _ _ _ _ _ _ _ _ _ _ _ _ _ _ _ _ _ _ _ _ _ _ _ _ _ _ _ _ _ _ _ _ _ _ _ _ _ _ _ _ _ _ _ _ _ _ _ _ _ _ _ _ _ _ _ _ _ _ _ _ _ _ _ _ _ _ _ _ _ _ _ _ _ _ _ _ _ _ _ _ _ _ _ _ _ _ _ _ _ _ _ _ _ _ _ _ _ _ _ _ _ _ _ _ _ _ _ _ _ _ _ _ _ _ _ _ _ _ _ _ _ _ _ _ _ _ _ _ _ _ _ _ _ _ _ _ _ _ _ _ _ _ _ _ _ _ _ _ _ _ _ _ _ _ _ _ _ _ _ _ _ _ _ hpA h23 h34 h4T hT4 hTV hV HA2 HA3 HA4 HKL HT HV HOL Hh Hok hobd S0 S1 S2 S3 HS LE HLE RE HRE key Hkey

set_option maxHeartbeats 4000000 in
set_option maxRecDepth 100000 in
theorem lay_28 (g n : Nat) (bs : List UInt8) (w : World) (hg : g < w.heap.size) (hbs : Bs w g bs) (Hn : Hid (bs.length = n)) (hmax : n ≤ 1048576) (f o : Int) (p A2 A3 A4 KL T V OL : Nat) (u16 u17 u18 u19 u20 u21 u22 u23 u24 u25 u26 u27 u28 u29 u30 u31 u32 u33 u34 u35 u36 u37 u38 u39 u40 u41 u42 u43 u44 u45 u46 u47 u48 u49 u50 u51 u52 u53 u54 u55 u56 u57 u58 u59 u60 u61 u62 u63 u64 u65 u66 u67 u68 u69 u70 u71 u72 u73 u74 u75 u76 u77 u78 u79 u80 u81 u82 u83 u84 u85 u86 u87 u88 u89 u90 u91 u92 u93 u94 u95 u96 u97 u98 u99 u100 u101 u102 u103 u104 u105 u106 u107 u108 u109 u110 u111 u112 u113 u114 u115 u116 u117 u118 u119 u120 u121 u122 u123 u124 u125 u126 u127 u128 u129 u130 u131 u132 u133 u134 u135 u136 u137 u138 u139 u140 u141 u142 u143 u144 u145 u146 u147 u148 u149 u150 u151 u152 u153 u154 u155 u156 u157 u158 u159 u160 u161 u162 u163 u164 u165 u166 u167 u168 u169 u170 u171 u172 u173 u174 u175 u176 u177 u178 u179 u180 u181 u182 u183 u184 u185 u186 u187 u188 u189 u190 u191 u192 u193 u194 u195 u196 u197 u198 u199 u200 u201 u202 u203 u204 u205 u206 u207 u208 u209 u210 u211 u212 u213 u214 u215 : Value)
    (hpA : p ≤ A2) (h23 : A2 ≤ A3) (h34 : A3 ≤ A4) (h4T : A4 + 2 + KL ≤ T) (hT4 : T ≤ A4 + 2 + KL) (hTV : T ≤ V) (hV : V ≤ n) (HA2 : Hid (A2 = q2 f p)) (HA3 : Hid (A3 = q3 f p)) (HA4 : Hid (A4 = q4 f p)) (HKL : Hid (KL = keyLen bs f p)) (HT : Hid (T = q6 bs f p)) (HV : Hid (V = q7 bs f o p)) (HOL : Hid (o = 4 → OL = oldLen bs f p)) (Hh : Hid (HeadRel bs f o p)) (Hok : Hid (¬ Bad bs f o p)) (hobd : 0 ≤ o ∧ o < 256)
    (S0 S1 S2 S3 : Nat) (HS : Hid (S0 = sess bs f p 0 ∧ S1 = sess bs f p 1 ∧ S2 = sess bs f p 2 ∧ S3 = sess bs f p 3)) :
    Code.wp Tryf.prog (dropS 28 (Tryf.f6.body.getD .skip)) (bodyPost Tryf.prog Tryf.f6 fun e w' => LayEnd w g bs e w') ⟨#[.slice (some ⟨g, 0, none⟩) n n, undef, .bool false, .pointer (some ⟨w.heap.size, 0, none⟩), .pointer (some ⟨w.heap.size + 1, 0, none⟩), .int .i64 (n : Int), .int .u8 f, .int .u8 o, .int .i64 (V : Int), .int .i64 (p : Int), .int .i64 (A2 : Int), .int .i64 (A3 : Int), .int .i64 (KL : Int), .int .i64 ((A4 : Int) + 2), .int .i64 (T : Int), .int .i64 (OL : Int), u16, u17, u18, u19, u20, u21, u22, u23, u24, u25, u26, u27, u28, u29, u30, u31, u32, u33, u34, u35, u36, u37, u38, u39, u40, u41, u42, u43, u44, u45, u46, u47, u48, u49, u50, u51, u52, u53, u54, u55, u56, u57, u58, u59, u60, u61, u62, u63, u64, u65, u66, u67, u68, u69, u70, u71, u72, u73, u74, u75, u76, u77, u78, u79, u80, u81, u82, u83, u84, u85, u86, u87, u88, u89, u90, u91, u92, u93, u94, u95, u96, u97, u98, u99, u100, u101, u102, u103, u104, u105, u106, u107, u108, u109, u110, u111, u112, u113, u114, u115, u116, u117, u118, u119, u120, u121, u122, u123, u124, u125, u126, u127, u128, u129, u130, u131, u132, u133, u134, u135, u136, u137, u138, u139, u140, u141, u142, u143, u144, u145, u146, u147, u148, u149, u150, u151, u152, u153, u154, u155, u156, u157, u158, u159, u160, u161, u162, u163, u164, u165, u166, u167, u168, u169, u170, u171, u172, u173, u174, u175, u176, u177, u178, u179, u180, u181, u182, u183, u184, u185, u186, u187, u188, u189, u190, u191, u192, u193, u194, u195, u196, u197, u198, u199, u200, u201, u202, u203, u204, u205, u206, u207, u208, u209, u210, u211, u212, u213, u214, u215], []⟩ ((w.alloc ZO).alloc (.cells (cmdA (.int .u8 o) (.string ⟨#[]⟩) (.slice none 0 0) (.slice none 0 0) (.int .u64 S0) (.int .u64 S1) (.int .i64 (wrap64 S2)) (.int .i64 (wrap64 S3)) (.int .u64 0) (.int .i64 0) (.bool false) (.int .u64 0) (.int .u64 0) (.int .u64 0) (.int .u64 0) (.int .i64 0)) 30)) := by
  conv => arg 2; whnf
  go_upto_if 148 with fail
  go_cut [] (fun wx => ∃ LE : Nat, Hid (LE = leaseV bs f p) ∧ wx = ((w.alloc ZO).alloc (.cells (cmdA (.int .u8 o) (.string ⟨#[]⟩) (.slice none 0 0) (.slice none 0 0) (.int .u64 S0) (.int .u64 S1) (.int .i64 (wrap64 S2)) (.int .i64 (wrap64 S3)) (.int .u64 LE) (.int .i64 0) (.bool false) (.int .u64 0) (.int .u64 0) (.int .u64 0) (.int .u64 0) (.int .i64 0)) 30)))
  case first =>
    cases hfl : (bits BinOp.and IntKind.u8 f 16 != 0)
    · have Hff : Hid (flg f 16 = false) := by unfold Hid flg; exact hfl
      go_wp2
      go_meet
      case rel =>
        refine ⟨0, ?_, rfl⟩
        unfold Hid leaseV; rw [if_neg (by rw [Hff.out]; simp)]
    · have Hfl : Hid (flg f 16 = true) := hfl
      have hq : A2 + 8 ≤ A3 := by rw [HA3.out, HA2.out]; unfold q3; rw [if_pos Hfl.out]; exact Nat.le_refl _
      go_wp2_with fail
      refine (zBE_any g n n bs (A2) (A2) 8 (by omega) _ (bs2 hbs hg _ _) Hn.out (by omega) (by omega) hmax).mono ?_
      rintro e w' ⟨rfl, rfl⟩
      obtain ⟨LE, eLE⟩ : ∃ LE : Nat, LE = be bs (A2) 8 := ⟨_, rfl⟩
      rw [← eLE]
      have ELE : Hid (LE = be bs (A2) 8) := eLE
      have lLE : LE < 256 ^ 8 := by rw [eLE]; exact be_lt bs (A2) 8
      clear eLE
      go_wp2
      go_meet
      case rel =>
        refine ⟨LE, ?_, rfl⟩
        unfold Hid leaseV; rw [if_pos Hfl.out, ← HA2.out]; exact ELE.out
  case rest =>
  obtain ⟨LE, HLE, rfl⟩ := hcut
  go_step
  exact lay_29 g n bs w hg hbs Hn hmax f o p A2 A3 A4 KL T V OL _ _ _ _ _ _ _ _ _ _ _ _ _ _ _ _ _ _ _ _ _ _ _ _ _ _ _ _ _ _ _ _ _ _ _ _ _ _ _ _ _ _ _ _ _ _ _ _ _ _ _ _ _ _ _ _ _ _ _ _ _ _ _ _ _ _ _ _ _ _ _ _ _ _ _ _ _ _ _ _ _ _ _ _ _ _ _ _ _ _ _ _ _ _ _ _ _ _ _ _ _ _ _ _ _ _ _ _ _ _ _ _ _ _ _ _ _ _ _ _ _ _ _ _ _ _ _ _ _ _ _ _ _ _ _ _ _ _ _ _ _ _ _ _ _ _ _ _ _ _ _ _ _ _ _ _ _ _ _ _ _ _ _ _ _ _ _ _ _ _ _ _ _ _ _ _ _ _ _ _ _ _ _ _ _ _ _ _ _ _ _ _ _ _ _ _ _ _ _ _ hpA h23 h34 h4T hT4 hTV hV HA2 HA3 HA4 HKL HT HV HOL Hh Hok hobd S0 S1 S2 S3 HS LE HLE

set_option maxHeartbeats 4000000 in
set_option maxRecDepth 100000 in
theorem lay_26 (g n : Nat) (bs : List UInt8) (w : World) (hg : g < w.heap.size) (hbs : Bs w g bs) (Hn : Hid (bs.length = n)) (hmax : n ≤ 1048576) (f o : Int) (p A2 A3 A4 KL T V OL : Nat) (u16 u17 u18 u19 u20 u21 u22 u23 u24 u25 u26 u27 u28 u29 u30 u31 u32 u33 u34 u35 u36 u37 u38 u39 u40 u41 u42 u43 u44 u45 u46 u47 u48 u49 u50 u51 u52 u53 u54 u55 u56 u57 u58 u59 u60 u61 u62 u63 u64 u65 u66 u67 u68 u69 u70 u71 u72 u73 u74 u75 u76 u77 u78 u79 u80 u81 u82 u83 u84 u85 u86 u87 u88 u89 u90 u91 u92 u93 u94 u95 u96 u97 u98 u99 u100 u101 u102 u103 u104 u105 u106 u107 u108 u109 u110 u111 u112 u113 u114 u115 u116 u117 u118 u119 u120 u121 u122 u123 u124 u125 u126 u127 u128 u129 u130 u131 u132 u133 u134 u135 u136 u137 u138 u139 u140 u141 u142 u143 u144 u145 u146 u147 u148 u149 u150 u151 u152 u153 u154 u155 u156 u157 u158 u159 u160 u161 u162 u163 u164 u165 u166 u167 u168 u169 u170 u171 u172 u173 u174 u175 u176 u177 u178 u179 u180 u181 u182 u183 u184 u185 u186 u187 u188 u189 u190 u191 u192 u193 u194 u195 u196 u197 u198 u199 u200 u201 u202 u203 u204 u205 u206 u207 u208 u209 u210 u211 u212 u213 u214 u215 : Value)
    (hpA : p ≤ A2) (h23 : A2 ≤ A3) (h34 : A3 ≤ A4) (h4T : A4 + 2 + KL ≤ T) (hT4 : T ≤ A4 + 2 + KL) (hTV : T ≤ V) (hV : V ≤ n) (HA2 : Hid (A2 = q2 f p)) (HA3 : Hid (A3 = q3 f p)) (HA4 : Hid (A4 = q4 f p)) (HKL : Hid (KL = keyLen bs f p)) (HT : Hid (T = q6 bs f p)) (HV : Hid (V = q7 bs f o p)) (HOL : Hid (o = 4 → OL = oldLen bs f p)) (Hh : Hid (HeadRel bs f o p)) (Hok : Hid (¬ Bad bs f o p)) (hobd : 0 ≤ o ∧ o < 256)
     :
    Code.wp Tryf.prog (dropS 26 (Tryf.f6.body.getD .skip)) (bodyPost Tryf.prog Tryf.f6 fun e w' => LayEnd w g bs e w') ⟨#[.slice (some ⟨g, 0, none⟩) n n, undef, .bool false, .pointer (some ⟨w.heap.size, 0, none⟩), .pointer (some ⟨w.heap.size + 1, 0, none⟩), .int .i64 (n : Int), .int .u8 f, .int .u8 o, .int .i64 (V : Int), .int .i64 (p : Int), .int .i64 (A2 : Int), .int .i64 (A3 : Int), .int .i64 (KL : Int), .int .i64 ((A4 : Int) + 2), .int .i64 (T : Int), .int .i64 (OL : Int), u16, u17, u18, u19, u20, u21, u22, u23, u24, u25, u26, u27, u28, u29, u30, u31, u32, u33, u34, u35, u36, u37, u38, u39, u40, u41, u42, u43, u44, u45, u46, u47, u48, u49, u50, u51, u52, u53, u54, u55, u56, u57, u58, u59, u60, u61, u62, u63, u64, u65, u66, u67, u68, u69, u70, u71, u72, u73, u74, u75, u76, u77, u78, u79, u80, u81, u82, u83, u84, u85, u86, u87, u88, u89, u90, u91, u92, u93, u94, u95, u96, u97, u98, u99, u100, u101, u102, u103, u104, u105, u106, u107, u108, u109, u110, u111, u112, u113, u114, u115, u116, u117, u118, u119, u120, u121, u122, u123, u124, u125, u126, u127, u128, u129, u130, u131, u132, u133, u134, u135, u136, u137, u138, u139, u140, u141, u142, u143, u144, u145, u146, u147, u148, u149, u150, u151, u152, u153, u154, u155, u156, u157, u158, u159, u160, u161, u162, u163, u164, u165, u166, u167, u168, u169, u170, u171, u172, u173, u174, u175, u176, u177, u178, u179, u180, u181, u182, u183, u184, u185, u186, u187, u188, u189, u190, u191, u192, u193, u194, u195, u196, u197, u198, u199, u200, u201, u202, u203, u204, u205, u206, u207, u208, u209, u210, u211, u212, u213, u214, u215], []⟩ ((w.alloc ZO).alloc (.cells (cmdA (.int .u8 0) (.string ⟨#[]⟩) (.slice none 0 0) (.slice none 0 0) (.int .u64 0) (.int .u64 0) (.int .i64 0) (.int .i64 0) (.int .u64 0) (.int .i64 0) (.bool false) (.int .u64 0) (.int .u64 0) (.int .u64 0) (.int .u64 0) (.int .i64 0)) 30)) := by
  conv => arg 2; whnf
  go_upto_if 126 with fail
  go_cut [] (fun wx => ∃ S0 S1 S2 S3 : Nat, Hid (S0 = sess bs f p 0 ∧ S1 = sess bs f p 1 ∧ S2 = sess bs f p 2 ∧ S3 = sess bs f p 3) ∧ wx = ((w.alloc ZO).alloc (.cells (cmdA (.int .u8 o) (.string ⟨#[]⟩) (.slice none 0 0) (.slice none 0 0) (.int .u64 S0) (.int .u64 S1) (.int .i64 (wrap64 S2)) (.int .i64 (wrap64 S3)) (.int .u64 0) (.int .i64 0) (.bool false) (.int .u64 0) (.int .u64 0) (.int .u64 0) (.int .u64 0) (.int .i64 0)) 30)))
  case first =>
    cases hfl : (bits BinOp.and IntKind.u8 f 32 != 0)
    · have Hff : Hid (flg f 32 = false) := by unfold Hid flg; exact hfl
      go_wp2
      go_meet
      case rel =>
        have hf' : ¬ flg f 32 = true := by rw [Hff.out]; simp
        refine ⟨0, 0, 0, 0, ⟨?_, ?_, ?_, ?_⟩, ?_⟩
        · unfold sess; rw [if_neg hf']
        · unfold sess; rw [if_neg hf']
        · unfold sess; rw [if_neg hf']
        · unfold sess; rw [if_neg hf']
        · have e0 : wrap64 ((0 : Nat) : Int) = 0 := wrap64_small 0 (by omega)
          rw [e0]; rfl
    · have Hfl : Hid (flg f 32 = true) := hfl
      have hq : p + 32 ≤ A2 := by rw [HA2.out]; unfold q2; rw [if_pos Hfl.out]; exact Nat.le_refl _
      go_wp2_with fail
      refine (zBE_any g n n bs (p) (p) 8 (by omega) _ (bs2 hbs hg _ _) Hn.out (by omega) (by omega) hmax).mono ?_
      rintro e w' ⟨rfl, rfl⟩
      obtain ⟨X0, eX0⟩ : ∃ X0 : Nat, X0 = be bs (p) 8 := ⟨_, rfl⟩
      rw [← eX0]
      have EX0 : Hid (X0 = be bs (p) 8) := eX0
      have lX0 : X0 < 256 ^ 8 := by rw [eX0]; exact be_lt bs (p) 8
      clear eX0
      go_wp2_with fail
      refine (zBE_any g n n bs ((p : Int) + 8) (p + 8) 8 (by omega) _ (bs2 hbs hg _ _) Hn.out (by omega) (by omega) hmax).mono ?_
      rintro e w' ⟨rfl, rfl⟩
      obtain ⟨X1, eX1⟩ : ∃ X1 : Nat, X1 = be bs (p + 8) 8 := ⟨_, rfl⟩
      rw [← eX1]
      have EX1 : Hid (X1 = be bs (p + 8) 8) := eX1
      have lX1 : X1 < 256 ^ 8 := by rw [eX1]; exact be_lt bs (p + 8) 8
      clear eX1
      go_wp2_with fail
      refine (zBE_any g n n bs ((p : Int) + 16) (p + 16) 8 (by omega) _ (bs2 hbs hg _ _) Hn.out (by omega) (by omega) hmax).mono ?_
      rintro e w' ⟨rfl, rfl⟩
      obtain ⟨X2, eX2⟩ : ∃ X2 : Nat, X2 = be bs (p + 16) 8 := ⟨_, rfl⟩
      rw [← eX2]
      have EX2 : Hid (X2 = be bs (p + 16) 8) := eX2
      have lX2 : X2 < 256 ^ 8 := by rw [eX2]; exact be_lt bs (p + 16) 8
      clear eX2
      go_wp2_with fail
      refine (zBE_any g n n bs ((p : Int) + 24) (p + 24) 8 (by omega) _ (bs2 hbs hg _ _) Hn.out (by omega) (by omega) hmax).mono ?_
      rintro e w' ⟨rfl, rfl⟩
      obtain ⟨X3, eX3⟩ : ∃ X3 : Nat, X3 = be bs (p + 24) 8 := ⟨_, rfl⟩
      rw [← eX3]
      have EX3 : Hid (X3 = be bs (p + 24) 8) := eX3
      have lX3 : X3 < 256 ^ 8 := by rw [eX3]; exact be_lt bs (p + 24) 8
      clear eX3
      go_wp2
      go_meet
      case rel =>
        refine ⟨X0, X1, X2, X3, ⟨?_, ?_, ?_, ?_⟩, rfl⟩
        · unfold sess; rw [if_pos Hfl.out]; exact EX0.out
        · unfold sess; rw [if_pos Hfl.out]; exact EX1.out
        · unfold sess; rw [if_pos Hfl.out]; exact EX2.out
        · unfold sess; rw [if_pos Hfl.out]; exact EX3.out
  case rest =>
  obtain ⟨S0, S1, S2, S3, HS, rfl⟩ := hcut
  go_step
  exact lay_28 g n bs w hg hbs Hn hmax f o p A2 A3 A4 KL T V OL _ _ _ _ _ _ _ _ _ _ _ _ _ _ _ _ _ _ _ _ _ _ _ _ _ _ _ _ _ _ _ _ _ _ _ _ _ _ _ _ _ _ _ _ _ _ _ _ _ _ _ _ _ _ _ _ _ _ _ _ _ _ _ _ _ _ _ _ _ _ _ _ _ _ _ _ _ _ _ _ _ _ _ _ _ _ _ _ _ _ _ _ _ _ _ _ _ _ _ _ _ _ _ _ _ _ _ _ _ _ _ _ _ _ _ _ _ _ _ _ _ _ _ _ _ _ _ _ _ _ _ _ _ _ _ _ _ _ _ _ _ _ _ _ _ _ _ _ _ _ _ _ _ _ _ _ _ _ _ _ _ _ _ _ _ _ _ _ _ _ _ _ _ _ _ _ _ _ _ _ _ _ _ _ _ _ _ _ _ _ _ _ _ _ _ _ _ _ _ _ hpA h23 h34 h4T hT4 hTV hV HA2 HA3 HA4 HKL HT HV HOL Hh Hok hobd S0 S1 S2 S3 HS

end Go.Proofs.Qxb6614561aFmt
