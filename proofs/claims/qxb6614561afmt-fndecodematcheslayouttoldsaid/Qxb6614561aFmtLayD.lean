/-
  THE WALK of zLayout: the places.
-/
import Derived.Test.Qxb6614561aFmtLayC
namespace Go.Proofs.Qxb6614561aFmt
open Go Go.RowKit Go.Extern.Stop Go.Stop Go.Extern
set_option linter.unusedVariables false

/-- The tail's width, as the walk adds it up. -/
theorem q7_eq {bs : List UInt8} {f o : Int} {p T V1 V2 V3 V : Nat} {OL : Nat} (HT : T = q6 bs f p) (HOL : o = 4 → OL = oldLen bs f p) (HV1 : V1 = T + if o = 4 then 4 + OL else 0) (HV2 : V2 = V1 + if o = 5 then 4 else 0) (HV3 : V3 = V2 + if o = 8 ∨ o = 9 then 8 else 0) (HV : V = V3 + if o = 10 then 16 else 0) : V = q7 bs f o p := by
  unfold q7 tailW
  rw [HV, HV3, HV2, HV1, HT]
  by_cases o4 : o = 4
  · rw [HOL o4, o4]; rfl
  by_cases o5 : o = 5
  · rw [o5]; rfl
  by_cases o8 : o = 8
  · rw [o8]; rfl
  by_cases o9 : o = 9
  · rw [o9]; rfl
  by_cases o10 : o = 10
  · rw [o10]; rfl
  rw [if_neg o4, if_neg o4, if_neg o5, if_neg o5, if_neg o8, if_neg o9, if_neg o10, if_neg (by omega)]

set_option maxHeartbeats 4000000 in
set_option maxRecDepth 100000 in
theorem lay_22 (g n : Nat) (bs : List UInt8) (w : World) (hg : g < w.heap.size) (hbs : Bs w g bs) (Hn : Hid (bs.length = n)) (hmax : n ≤ 1048576) (f o : Int) (p : Nat) (A2 A3 A4 KL T V1 OL : Nat) (sv sk st : Int) (u16 u17 u18 u19 u20 u21 u22 u23 u24 u25 u26 u27 u28 u29 u30 u31 u32 u33 u34 u35 u36 u37 u38 u39 u40 u41 u42 u43 u44 u45 u46 u47 u48 u49 u50 u51 u52 u53 u54 u55 u56 u57 u58 u59 u60 u61 u62 u63 u64 u65 u66 u67 u68 u69 u70 u71 u72 u73 u74 u75 u76 u77 u78 u79 u80 u81 u82 u83 u84 u85 u86 u87 u88 u89 u90 u91 u92 u93 u94 u95 u96 u97 u98 u99 u100 u101 u102 u103 u104 u105 u106 u107 u108 u109 u110 u111 u112 u113 u114 u115 u116 u117 u118 u119 u120 u121 u122 u123 u124 u125 u126 u127 u128 u129 u130 u131 u132 u133 u134 u135 u136 u137 u138 u139 u140 u141 u142 u143 u144 u145 u146 u147 u148 u149 u150 u151 u152 u153 u154 u155 u156 u157 u158 u159 u160 u161 u162 u163 u164 u165 u166 u167 u168 u169 u170 u171 u172 u173 u174 u175 u176 u177 u178 u179 u180 u181 u182 u183 u184 u185 u186 u187 u188 u189 u190 u191 u192 u193 u194 u195 u196 u197 u198 u199 u200 u201 u202 u203 u204 u205 u206 u207 u208 u209 u210 u211 u212 u213 u214 u215 : Value)
    (Hh : Hid (HeadRel bs f o p)) (ho1 : 1 ≤ o) (ho10 : o ≤ 10) (hpn : p ≤ n) (hpA : p ≤ A2) (h23 : A2 ≤ A3) (h34 : A3 ≤ A4) (h4T : A4 + 2 + KL ≤ T) (hT4 : T ≤ A4 + 2 + KL) (hA4n : A4 + 2 ≤ n) (hKLb : KL < 65536) (HA2 : Hid (A2 = q2 f p)) (HA3 : Hid (A3 = q3 f p)) (HA4 : Hid (A4 = q4 f p)) (HKL : Hid (KL = keyLen bs f p)) (HT : Hid (T = q6 bs f p)) (HOL : Hid (o = 4 → OL = oldLen bs f p)) (hTV1 : T ≤ V1) (hV1n : V1 ≤ n + 65536) (HV1 : Hid (V1 = T + if o = 4 then 4 + OL else 0)) (hsv : sv = (V1 : Int)) (hsk : sk = (A4 : Int) + 2) (hst : st = (T : Int)) :
    Code.wp Tryf.prog (dropS 22 (Tryf.f6.body.getD .skip)) (bodyPost Tryf.prog Tryf.f6 fun e w' => LayEnd w g bs e w') ⟨#[.slice (some ⟨g, 0, none⟩) n n, undef, .bool false, .pointer (some ⟨w.heap.size, 0, none⟩), .pointer (some ⟨w.heap.size + 1, 0, none⟩), .int .i64 (n : Int), .int .u8 f, .int .u8 o, .int .i64 sv, .int .i64 (p : Int), .int .i64 (A2 : Int), .int .i64 (A3 : Int), .int .i64 (KL : Int), .int .i64 sk, .int .i64 st, .int .i64 (OL : Int), u16, u17, u18, u19, u20, u21, u22, u23, u24, u25, u26, u27, u28, u29, u30, u31, u32, u33, u34, u35, u36, u37, u38, u39, u40, u41, u42, u43, u44, u45, u46, u47, u48, u49, u50, u51, u52, u53, u54, u55, u56, u57, u58, u59, u60, u61, u62, u63, u64, u65, u66, u67, u68, u69, u70, u71, u72, u73, u74, u75, u76, u77, u78, u79, u80, u81, u82, u83, u84, u85, u86, u87, u88, u89, u90, u91, u92, u93, u94, u95, u96, u97, u98, u99, u100, u101, u102, u103, u104, u105, u106, u107, u108, u109, u110, u111, u112, u113, u114, u115, u116, u117, u118, u119, u120, u121, u122, u123, u124, u125, u126, u127, u128, u129, u130, u131, u132, u133, u134, u135, u136, u137, u138, u139, u140, u141, u142, u143, u144, u145, u146, u147, u148, u149, u150, u151, u152, u153, u154, u155, u156, u157, u158, u159, u160, u161, u162, u163, u164, u165, u166, u167, u168, u169, u170, u171, u172, u173, u174, u175, u176, u177, u178, u179, u180, u181, u182, u183, u184, u185, u186, u187, u188, u189, u190, u191, u192, u193, u194, u195, u196, u197, u198, u199, u200, u201, u202, u203, u204, u205, u206, u207, u208, u209, u210, u211, u212, u213, u214, u215], []⟩ ((w.alloc ZO).alloc (.cells zeroA 30)) := by
  subst hsv hsk hst
  conv => arg 2; whnf
  go_upto_if 103 with fail
  go_cut [8] (fun s wx => ∃ V2 : Nat, s = .int .i64 (V2 : Int) ∧ V1 ≤ V2 ∧ V2 ≤ V1 + 4 ∧ Hid (V2 = V1 + if o = 5 then 4 else 0) ∧ wx = ((w.alloc ZO).alloc (.cells zeroA 30)))
  case first =>
    by_cases ho : o = 5
    · have Ho : Hid (o = 5) := ho
      have ho' : (o == 5) = true := by simp [ho]
      clear ho
      go_wp2
      go_meet
      case rel => exact ⟨V1 + 4, by push_cast; rfl, by omega, by omega, by unfold Hid; rw [if_pos Ho.out], rfl⟩
    · have Ho : Hid (¬ o = 5) := ho
      have ho' : (o == 5) = false := by simpa using ho
      clear ho
      go_wp2
      go_meet
      case rel => exact ⟨V1, rfl, by omega, by omega, by unfold Hid; rw [if_neg Ho.out]; rfl, rfl⟩
  case rest =>
  obtain ⟨V2, rfl, hV2a, hV2b, HV2, rfl⟩ := hcut
  go_upto_region 43 with fail
  go_cut [111] (fun s wx => ∃ b : Bool, s = .bool b ∧ Hid (b = true ↔ (o = 8 ∨ o = 9)) ∧ wx = ((w.alloc ZO).alloc (.cells zeroA 30)))
  case first =>
    by_cases ho : o = 8
    · have Ho : Hid (o = 8) := ho
      have ho' : (o == 8) = true := by simp [ho]
      clear ho
      go_wp2
      go_meet
      case rel => exact ⟨true, rfl, by constructor; (intro _; exact .inl Ho.out); (intro _; rfl), rfl⟩
    · have Ho : Hid (¬ o = 8) := ho
      have ho' : (o == 8) = false := by simpa using ho
      clear ho
      go_wp2
      go_meet
      case rel => exact ⟨_, rfl, by constructor; (intro h; exact .inr (by simpa using h)); (intro h; rcases h with h | h; (exact absurd h Ho.out); (simpa using h)), rfl⟩
  case rest =>
  obtain ⟨b, rfl, Hb, rfl⟩ := hcut
  go_upto_if 111 with fail
  go_cut [8] (fun s wx => ∃ V3 : Nat, s = .int .i64 (V3 : Int) ∧ V2 ≤ V3 ∧ V3 ≤ V2 + 8 ∧ Hid (V3 = V2 + if o = 8 ∨ o = 9 then 8 else 0) ∧ wx = ((w.alloc ZO).alloc (.cells zeroA 30)))
  case first =>
    cases b
    · go_wp2
      go_meet
      case rel => exact ⟨V2, rfl, by omega, by omega, by unfold Hid; rw [if_neg (fun h => by have := Hb.out.2 h; simp at this)]; rfl, rfl⟩
    · go_wp2
      go_meet
      case rel => exact ⟨V2 + 8, by push_cast; rfl, by omega, by omega, by unfold Hid; rw [if_pos (Hb.out.1 (by simp))], rfl⟩
  case rest =>
  obtain ⟨V3, rfl, hV3a, hV3b, HV3, rfl⟩ := hcut
  go_upto_if 115 with fail
  go_cut [8] (fun s wx => ∃ V : Nat, s = .int .i64 (V : Int) ∧ V3 ≤ V ∧ V ≤ V3 + 16 ∧ Hid (V = V3 + if o = 10 then 16 else 0) ∧ wx = ((w.alloc ZO).alloc (.cells zeroA 30)))
  case first =>
    by_cases ho : o = 10
    · have Ho : Hid (o = 10) := ho
      have ho' : (o == 10) = true := by simp [ho]
      clear ho
      go_wp2
      go_meet
      case rel => exact ⟨V3 + 16, by push_cast; rfl, by omega, by omega, by unfold Hid; rw [if_pos Ho.out], rfl⟩
    · have Ho : Hid (¬ o = 10) := ho
      have ho' : (o == 10) = false := by simpa using ho
      clear ho
      go_wp2
      go_meet
      case rel => exact ⟨V3, rfl, by omega, by omega, by unfold Hid; rw [if_neg Ho.out]; rfl, rfl⟩
  case rest =>
  obtain ⟨V, rfl, hVa, hVb, HV, rfl⟩ := hcut
  have HV : Hid (V = q7 bs f o p) := q7_eq HT.out HOL.out HV1.out HV2.out HV3.out HV.out
  clear HV1 HV2 HV3
  go_upto_if 120 with fail
  by_cases hVn : n < V
  · have hVn' : (n : Int) < V := by omega
    go_wp2_with fail
    refine ret_region _ 121 _ false _ _ _ w.heap.size (w.heap.size + 1) zeroA zeroA (by omega) (by simp) rfl rfl (cmdR _ _) rfl (cmdC _ _) ⟨_, _, _, _, _, _, _, _, _, _, _, _, _, _, _, _, _, _, _, _, rfl⟩ ?_
    go_step
    go_step
    go_step
    refine ret_post 121 false _ _ _ w.heap.size _ (by omega) (by simp) rfl rfl (cmdR _ _) ⟨_, _, _, _, _, _, _, _, _, _, _, _, _, _, _, _, _, _, _, _, rfl⟩ ?_
    refine ⟨f, o, p, _, false, Hh.out, rfl, ⟨_, _, _, _, _, _, _, _, _, _, _, _, _, _, _, _, _, _, _, _, rfl⟩, .inl ⟨rfl, ?_⟩, ?_⟩
    · exact .inr (.inr (.inr (by rw [Hn.out, ← HV.out]; exact hVn)))
    · exact ((((Below.refl _ w).alloc (Nat.le_refl _) _).alloc (by simp) _).drew).trans (Lib.below_setCells_w (Nat.le_refl _) _ _ _)
  · have hVn' : ¬ (n : Int) < V := by omega
    have Hok : Hid (¬ Bad bs f o p) := by
      rintro (h | h | h | h)
      · rw [Hn.out] at h; omega
      · omega
      · omega
      · rw [Hn.out, ← HV.out] at h; omega
    have hobd : 0 ≤ o ∧ o < 256 := by omega
    have hTV : T ≤ V := by omega
    have hV : V ≤ n := by omega
    go_step
    go_step
    go_step
    go_step
    exact lay_26 g n bs w hg hbs Hn hmax f o p A2 A3 A4 KL T V OL _ _ _ _ _ _ _ _ _ _ _ _ _ _ _ _ _ _ _ _ _ _ _ _ _ _ _ _ _ _ _ _ _ _ _ _ _ _ _ _ _ _ _ _ _ _ _ _ _ _ _ _ _ _ _ _ _ _ _ _ _ _ _ _ _ _ _ _ _ _ _ _ _ _ _ _ _ _ _ _ _ _ _ _ _ _ _ _ _ _ _ _ _ _ _ _ _ _ _ _ _ _ _ _ _ _ _ _ _ _ _ _ _ _ _ _ _ _ _ _ _ _ _ _ _ _ _ _ _ _ _ _ _ _ _ _ _ _ _ _ _ _ _ _ _ _ _ _ _ _ _ _ _ _ _ _ _ _ _ _ _ _ _ _ _ _ _ _ _ _ _ _ _ _ _ _ _ _ _ _ _ _ _ _ _ _ _ _ _ _ _ _ _ _ _ _ _ _ _ _ hpA h23 h34 h4T hT4 hTV hV HA2 HA3 HA4 HKL HT HV HOL Hh Hok hobd

end Go.Proofs.Qxb6614561aFmt
