/-
  THE WALK of zLayout: the flags.
-/
import Derived.Test.Qxb6614561aFmtLayE
namespace Go.Proofs.Qxb6614561aFmt
open Go Go.RowKit Go.Extern.Stop Go.Stop Go.Extern
set_option linter.unusedVariables false

set_option maxHeartbeats 4000000 in
set_option maxRecDepth 100000 in
theorem lay_9 (g n : Nat) (bs : List UInt8) (w : World) (hg : g < w.heap.size) (hbs : Bs w g bs) (Hn : Hid (bs.length = n)) (hmax : n ≤ 1048576) (f o : Int) (p : Nat) (u9 u10 u11 u12 u13 u14 u15 u16 u17 u18 u19 u20 u21 u22 u23 u24 u25 u26 u27 u28 u29 u30 u31 u32 u33 u34 u35 u36 u37 u38 u39 u40 u41 u42 u43 u44 u45 u46 u47 u48 u49 u50 u51 u52 u53 u54 u55 u56 u57 u58 u59 u60 u61 u62 u63 u64 u65 u66 u67 u68 u69 u70 u71 u72 u73 u74 u75 u76 u77 u78 u79 u80 u81 u82 u83 u84 u85 u86 u87 u88 u89 u90 u91 u92 u93 u94 u95 u96 u97 u98 u99 u100 u101 u102 u103 u104 u105 u106 u107 u108 u109 u110 u111 u112 u113 u114 u115 u116 u117 u118 u119 u120 u121 u122 u123 u124 u125 u126 u127 u128 u129 u130 u131 u132 u133 u134 u135 u136 u137 u138 u139 u140 u141 u142 u143 u144 u145 u146 u147 u148 u149 u150 u151 u152 u153 u154 u155 u156 u157 u158 u159 u160 u161 u162 u163 u164 u165 u166 u167 u168 u169 u170 u171 u172 u173 u174 u175 u176 u177 u178 u179 u180 u181 u182 u183 u184 u185 u186 u187 u188 u189 u190 u191 u192 u193 u194 u195 u196 u197 u198 u199 u200 u201 u202 u203 u204 u205 u206 u207 u208 u209 u210 u211 u212 u213 u214 u215 : Value)
    (Hh : Hid (HeadRel bs f o p)) (ho1 : 1 ≤ o) (ho10 : o ≤ 10) (hpn : p ≤ n) :
    Code.wp Tryf.prog (dropS 9 (Tryf.f6.body.getD .skip)) (bodyPost Tryf.prog Tryf.f6 fun e w' => LayEnd w g bs e w') ⟨#[.slice (some ⟨g, 0, none⟩) n n, undef, .bool false, .pointer (some ⟨w.heap.size, 0, none⟩), .pointer (some ⟨w.heap.size + 1, 0, none⟩), .int .i64 (n : Int), .int .u8 f, .int .u8 o, .int .i64 (p : Int), u9, u10, u11, u12, u13, u14, u15, u16, u17, u18, u19, u20, u21, u22, u23, u24, u25, u26, u27, u28, u29, u30, u31, u32, u33, u34, u35, u36, u37, u38, u39, u40, u41, u42, u43, u44, u45, u46, u47, u48, u49, u50, u51, u52, u53, u54, u55, u56, u57, u58, u59, u60, u61, u62, u63, u64, u65, u66, u67, u68, u69, u70, u71, u72, u73, u74, u75, u76, u77, u78, u79, u80, u81, u82, u83, u84, u85, u86, u87, u88, u89, u90, u91, u92, u93, u94, u95, u96, u97, u98, u99, u100, u101, u102, u103, u104, u105, u106, u107, u108, u109, u110, u111, u112, u113, u114, u115, u116, u117, u118, u119, u120, u121, u122, u123, u124, u125, u126, u127, u128, u129, u130, u131, u132, u133, u134, u135, u136, u137, u138, u139, u140, u141, u142, u143, u144, u145, u146, u147, u148, u149, u150, u151, u152, u153, u154, u155, u156, u157, u158, u159, u160, u161, u162, u163, u164, u165, u166, u167, u168, u169, u170, u171, u172, u173, u174, u175, u176, u177, u178, u179, u180, u181, u182, u183, u184, u185, u186, u187, u188, u189, u190, u191, u192, u193, u194, u195, u196, u197, u198, u199, u200, u201, u202, u203, u204, u205, u206, u207, u208, u209, u210, u211, u212, u213, u214, u215], []⟩ ((w.alloc ZO).alloc (.cells zeroA 30)) := by
  conv => arg 2; whnf
  go_upto_if 48 with fail
  go_cut [8] (fun s wx => ∃ A2 : Nat, s = .int .i64 (A2 : Int) ∧ p ≤ A2 ∧ A2 ≤ p + 32 ∧ Hid (A2 = q2 f p) ∧ wx = ((w.alloc ZO).alloc (.cells zeroA 30)))
  case first =>
    cases hfl : (bits BinOp.and IntKind.u8 f 32 != 0)
    · have Hff : Hid (flg f 32 = false) := by unfold Hid flg; exact hfl
      go_wp2
      go_meet
      case rel => exact ⟨p, rfl, by omega, by omega, by unfold Hid q2; rw [if_neg (by rw [Hff.out]; simp)]; rfl, rfl⟩
    · have Hfl : Hid (flg f 32 = true) := hfl
      go_wp2
      go_meet
      case rel => exact ⟨p + 32, by push_cast; rfl, by omega, by omega, by unfold Hid q2; rw [if_pos Hfl.out], rfl⟩
  case rest =>
  obtain ⟨A2, rfl, hA2a, hA2b, HA2, rfl⟩ := hcut
  go_upto_if 54 with fail
  go_cut [8] (fun s wx => ∃ A3 : Nat, s = .int .i64 (A3 : Int) ∧ A2 ≤ A3 ∧ A3 ≤ A2 + 8 ∧ Hid (A3 = q3 f p) ∧ wx = ((w.alloc ZO).alloc (.cells zeroA 30)))
  case first =>
    cases hfl : (bits BinOp.and IntKind.u8 f 16 != 0)
    · have Hff : Hid (flg f 16 = false) := by unfold Hid flg; exact hfl
      go_wp2
      go_meet
      case rel => exact ⟨A2, rfl, by omega, by omega, by unfold Hid q3; rw [if_neg (by rw [Hff.out]; simp), ← HA2.out]; rfl, rfl⟩
    · have Hfl : Hid (flg f 16 = true) := hfl
      go_wp2
      go_meet
      case rel => exact ⟨A2 + 8, by push_cast; rfl, by omega, by omega, by unfold Hid q3; rw [if_pos Hfl.out, ← HA2.out], rfl⟩
  case rest =>
  obtain ⟨A3, rfl, hA3a, hA3b, HA3, rfl⟩ := hcut
  go_upto_if 60 with fail
  go_cut [8] (fun s wx => ∃ A4 : Nat, s = .int .i64 (A4 : Int) ∧ A3 ≤ A4 ∧ A4 ≤ A3 + 8 ∧ Hid (A4 = q4 f p) ∧ wx = ((w.alloc ZO).alloc (.cells zeroA 30)))
  case first =>
    cases hfl : (bits BinOp.and IntKind.u8 f 8 != 0)
    · have Hff : Hid (flg f 8 = false) := by unfold Hid flg; exact hfl
      go_wp2
      go_meet
      case rel => exact ⟨A3, rfl, by omega, by omega, by unfold Hid q4; rw [if_neg (by rw [Hff.out]; simp), ← HA3.out]; rfl, rfl⟩
    · have Hfl : Hid (flg f 8 = true) := hfl
      go_wp2
      go_meet
      case rel => exact ⟨A3 + 8, by push_cast; rfl, by omega, by omega, by unfold Hid q4; rw [if_pos Hfl.out, ← HA3.out], rfl⟩
  case rest =>
  obtain ⟨A4, rfl, hA4a, hA4b, HA4, rfl⟩ := hcut
  go_step
  exact lay_15 g n bs w hg hbs Hn hmax f o p A2 A3 A4 _ _ _ _ _ _ _ _ _ _ _ _ _ _ _ _ _ _ _ _ _ _ _ _ _ _ _ _ _ _ _ _ _ _ _ _ _ _ _ _ _ _ _ _ _ _ _ _ _ _ _ _ _ _ _ _ _ _ _ _ _ _ _ _ _ _ _ _ _ _ _ _ _ _ _ _ _ _ _ _ _ _ _ _ _ _ _ _ _ _ _ _ _ _ _ _ _ _ _ _ _ _ _ _ _ _ _ _ _ _ _ _ _ _ _ _ _ _ _ _ _ _ _ _ _ _ _ _ _ _ _ _ _ _ _ _ _ _ _ _ _ _ _ _ _ _ _ _ _ _ _ _ _ _ _ _ _ _ _ _ _ _ _ _ _ _ _ _ _ _ _ _ _ _ _ _ _ _ _ _ _ _ _ _ _ _ _ _ _ _ _ _ _ _ _ _ _ _ _ _ _ _ _ _ Hh ho1 ho10 hpn hA2a hA3a hA4a (by omega) HA2 HA3 HA4

set_option maxHeartbeats 4000000 in
set_option maxRecDepth 100000 in
theorem lay_8 (g n : Nat) (bs : List UInt8) (w : World) (hg : g < w.heap.size) (hbs : Bs w g bs) (Hn : Hid (bs.length = n)) (hmax : n ≤ 1048576) (f o : Int) (p : Nat) (u9 u10 u11 u12 u13 u14 u15 u16 u17 u18 u19 u20 u21 u22 u23 u24 u25 u26 u27 u28 u29 u30 u31 u32 u33 u34 u35 u36 u37 u38 u39 u40 u41 u42 u43 u44 u45 u46 u47 u48 u49 u50 u51 u52 u53 u54 u55 u56 u57 u58 u59 u60 u61 u62 u63 u64 u65 u66 u67 u68 u69 u70 u71 u72 u73 u74 u75 u76 u77 u78 u79 u80 u81 u82 u83 u84 u85 u86 u87 u88 u89 u90 u91 u92 u93 u94 u95 u96 u97 u98 u99 u100 u101 u102 u103 u104 u105 u106 u107 u108 u109 u110 u111 u112 u113 u114 u115 u116 u117 u118 u119 u120 u121 u122 u123 u124 u125 u126 u127 u128 u129 u130 u131 u132 u133 u134 u135 u136 u137 u138 u139 u140 u141 u142 u143 u144 u145 u146 u147 u148 u149 u150 u151 u152 u153 u154 u155 u156 u157 u158 u159 u160 u161 u162 u163 u164 u165 u166 u167 u168 u169 u170 u171 u172 u173 u174 u175 u176 u177 u178 u179 u180 u181 u182 u183 u184 u185 u186 u187 u188 u189 u190 u191 u192 u193 u194 u195 u196 u197 u198 u199 u200 u201 u202 u203 u204 u205 u206 u207 u208 u209 u210 u211 u212 u213 u214 u215 : Value)
    (Hh : Hid (HeadRel bs f o p)) (hobd : 0 ≤ o ∧ o < 256) (hpn : p ≤ n) :
    Code.wp Tryf.prog (dropS 8 (Tryf.f6.body.getD .skip)) (bodyPost Tryf.prog Tryf.f6 fun e w' => LayEnd w g bs e w') ⟨#[.slice (some ⟨g, 0, none⟩) n n, undef, .bool false, .pointer (some ⟨w.heap.size, 0, none⟩), .pointer (some ⟨w.heap.size + 1, 0, none⟩), .int .i64 (n : Int), .int .u8 f, .int .u8 o, .int .i64 (p : Int), u9, u10, u11, u12, u13, u14, u15, u16, u17, u18, u19, u20, u21, u22, u23, u24, u25, u26, u27, u28, u29, u30, u31, u32, u33, u34, u35, u36, u37, u38, u39, u40, u41, u42, u43, u44, u45, u46, u47, u48, u49, u50, u51, u52, u53, u54, u55, u56, u57, u58, u59, u60, u61, u62, u63, u64, u65, u66, u67, u68, u69, u70, u71, u72, u73, u74, u75, u76, u77, u78, u79, u80, u81, u82, u83, u84, u85, u86, u87, u88, u89, u90, u91, u92, u93, u94, u95, u96, u97, u98, u99, u100, u101, u102, u103, u104, u105, u106, u107, u108, u109, u110, u111, u112, u113, u114, u115, u116, u117, u118, u119, u120, u121, u122, u123, u124, u125, u126, u127, u128, u129, u130, u131, u132, u133, u134, u135, u136, u137, u138, u139, u140, u141, u142, u143, u144, u145, u146, u147, u148, u149, u150, u151, u152, u153, u154, u155, u156, u157, u158, u159, u160, u161, u162, u163, u164, u165, u166, u167, u168, u169, u170, u171, u172, u173, u174, u175, u176, u177, u178, u179, u180, u181, u182, u183, u184, u185, u186, u187, u188, u189, u190, u191, u192, u193, u194, u195, u196, u197, u198, u199, u200, u201, u202, u203, u204, u205, u206, u207, u208, u209, u210, u211, u212, u213, u214, u215], []⟩ ((w.alloc ZO).alloc (.cells zeroA 30)) := by
  conv => arg 2; whnf
  by_cases h1 : o < 1
  · have h1' : decide (o < 1) = true := by simpa using h1
    go_upto_if 43 with fail
    go_wp2_with fail
    refine ret_region _ 44 _ false _ _ _ w.heap.size (w.heap.size + 1) zeroA zeroA (by omega) (by simp) rfl rfl (cmdR _ _) rfl (cmdC _ _) ⟨_, _, _, _, _, _, _, _, _, _, _, _, _, _, _, _, _, _, _, _, rfl⟩ ?_
    go_step
    go_step
    go_step
    refine ret_post 44 false _ _ _ w.heap.size _ (by omega) (by simp) rfl rfl (cmdR _ _) ⟨_, _, _, _, _, _, _, _, _, _, _, _, _, _, _, _, _, _, _, _, rfl⟩ ?_
    refine ⟨f, o, p, _, false, Hh.out, rfl, ⟨_, _, _, _, _, _, _, _, _, _, _, _, _, _, _, _, _, _, _, _, rfl⟩, .inl ⟨rfl, ?_⟩, ?_⟩
    · exact .inr (.inl h1)
    · exact ((((Below.refl _ w).alloc (Nat.le_refl _) _).alloc (by simp) _).drew).trans (Lib.below_setCells_w (Nat.le_refl _) _ _ _)
  have h1' : decide (o < 1) = false := by simpa using h1
  by_cases h10 : 10 < o
  · have h10' : decide (10 < o) = true := by simpa using h10
    go_upto_if 43 with fail
    go_wp2_with fail
    refine ret_region _ 44 _ false _ _ _ w.heap.size (w.heap.size + 1) zeroA zeroA (by omega) (by simp) rfl rfl (cmdR _ _) rfl (cmdC _ _) ⟨_, _, _, _, _, _, _, _, _, _, _, _, _, _, _, _, _, _, _, _, rfl⟩ ?_
    go_step
    go_step
    go_step
    refine ret_post 44 false _ _ _ w.heap.size _ (by omega) (by simp) rfl rfl (cmdR _ _) ⟨_, _, _, _, _, _, _, _, _, _, _, _, _, _, _, _, _, _, _, _, rfl⟩ ?_
    refine ⟨f, o, p, _, false, Hh.out, rfl, ⟨_, _, _, _, _, _, _, _, _, _, _, _, _, _, _, _, _, _, _, _, rfl⟩, .inl ⟨rfl, ?_⟩, ?_⟩
    · exact .inr (.inr (.inl h10))
    · exact ((((Below.refl _ w).alloc (Nat.le_refl _) _).alloc (by simp) _).drew).trans (Lib.below_setCells_w (Nat.le_refl _) _ _ _)
  have h10' : decide (10 < o) = false := by simpa using h10
  go_upto_if 43 with fail
  go_step
  go_step
  go_step
  go_step
  exact lay_9 g n bs w hg hbs Hn hmax f o p _ _ _ _ _ _ _ _ _ _ _ _ _ _ _ _ _ _ _ _ _ _ _ _ _ _ _ _ _ _ _ _ _ _ _ _ _ _ _ _ _ _ _ _ _ _ _ _ _ _ _ _ _ _ _ _ _ _ _ _ _ _ _ _ _ _ _ _ _ _ _ _ _ _ _ _ _ _ _ _ _ _ _ _ _ _ _ _ _ _ _ _ _ _ _ _ _ _ _ _ _ _ _ _ _ _ _ _ _ _ _ _ _ _ _ _ _ _ _ _ _ _ _ _ _ _ _ _ _ _ _ _ _ _ _ _ _ _ _ _ _ _ _ _ _ _ _ _ _ _ _ _ _ _ _ _ _ _ _ _ _ _ _ _ _ _ _ _ _ _ _ _ _ _ _ _ _ _ _ _ _ _ _ _ _ _ _ _ _ _ _ _ _ _ _ _ _ _ _ _ _ _ _ _ _ _ _ Hh (by omega) (by omega) hpn

end Go.Proofs.Qxb6614561aFmt
