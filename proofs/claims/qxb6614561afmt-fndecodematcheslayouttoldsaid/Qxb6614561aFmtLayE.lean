/-
  THE WALK of zLayout: the places, on.
-/
import Derived.Test.Qxb6614561aFmtLayD
namespace Go.Proofs.Qxb6614561aFmt
open Go Go.RowKit Go.Extern.Stop Go.Stop Go.Extern
set_option linter.unusedVariables false

set_option maxHeartbeats 4000000 in
set_option maxRecDepth 100000 in
theorem lay_15 (g n : Nat) (bs : List UInt8) (w : World) (hg : g < w.heap.size) (hbs : Bs w g bs) (Hn : Hid (bs.length = n)) (hmax : n ≤ 1048576) (f o : Int) (p : Nat) (A2 A3 A4 : Nat) (u12 u13 u14 u15 u16 u17 u18 u19 u20 u21 u22 u23 u24 u25 u26 u27 u28 u29 u30 u31 u32 u33 u34 u35 u36 u37 u38 u39 u40 u41 u42 u43 u44 u45 u46 u47 u48 u49 u50 u51 u52 u53 u54 u55 u56 u57 u58 u59 u60 u61 u62 u63 u64 u65 u66 u67 u68 u69 u70 u71 u72 u73 u74 u75 u76 u77 u78 u79 u80 u81 u82 u83 u84 u85 u86 u87 u88 u89 u90 u91 u92 u93 u94 u95 u96 u97 u98 u99 u100 u101 u102 u103 u104 u105 u106 u107 u108 u109 u110 u111 u112 u113 u114 u115 u116 u117 u118 u119 u120 u121 u122 u123 u124 u125 u126 u127 u128 u129 u130 u131 u132 u133 u134 u135 u136 u137 u138 u139 u140 u141 u142 u143 u144 u145 u146 u147 u148 u149 u150 u151 u152 u153 u154 u155 u156 u157 u158 u159 u160 u161 u162 u163 u164 u165 u166 u167 u168 u169 u170 u171 u172 u173 u174 u175 u176 u177 u178 u179 u180 u181 u182 u183 u184 u185 u186 u187 u188 u189 u190 u191 u192 u193 u194 u195 u196 u197 u198 u199 u200 u201 u202 u203 u204 u205 u206 u207 u208 u209 u210 u211 u212 u213 u214 u215 : Value)
    (Hh : Hid (HeadRel bs f o p)) (ho1 : 1 ≤ o) (ho10 : o ≤ 10) (hpn : p ≤ n) (hpA : p ≤ A2) (h23 : A2 ≤ A3) (h34 : A3 ≤ A4) (hA4b : A4 ≤ p + 48) (HA2 : Hid (A2 = q2 f p)) (HA3 : Hid (A3 = q3 f p)) (HA4 : Hid (A4 = q4 f p)) :
    Code.wp Tryf.prog (dropS 15 (Tryf.f6.body.getD .skip)) (bodyPost Tryf.prog Tryf.f6 fun e w' => LayEnd w g bs e w') ⟨#[.slice (some ⟨g, 0, none⟩) n n, undef, .bool false, .pointer (some ⟨w.heap.size, 0, none⟩), .pointer (some ⟨w.heap.size + 1, 0, none⟩), .int .i64 (n : Int), .int .u8 f, .int .u8 o, .int .i64 (A4 : Int), .int .i64 (p : Int), .int .i64 (A2 : Int), .int .i64 (A3 : Int), u12, u13, u14, u15, u16, u17, u18, u19, u20, u21, u22, u23, u24, u25, u26, u27, u28, u29, u30, u31, u32, u33, u34, u35, u36, u37, u38, u39, u40, u41, u42, u43, u44, u45, u46, u47, u48, u49, u50, u51, u52, u53, u54, u55, u56, u57, u58, u59, u60, u61, u62, u63, u64, u65, u66, u67, u68, u69, u70, u71, u72, u73, u74, u75, u76, u77, u78, u79, u80, u81, u82, u83, u84, u85, u86, u87, u88, u89, u90, u91, u92, u93, u94, u95, u96, u97, u98, u99, u100, u101, u102, u103, u104, u105, u106, u107, u108, u109, u110, u111, u112, u113, u114, u115, u116, u117, u118, u119, u120, u121, u122, u123, u124, u125, u126, u127, u128, u129, u130, u131, u132, u133, u134, u135, u136, u137, u138, u139, u140, u141, u142, u143, u144, u145, u146, u147, u148, u149, u150, u151, u152, u153, u154, u155, u156, u157, u158, u159, u160, u161, u162, u163, u164, u165, u166, u167, u168, u169, u170, u171, u172, u173, u174, u175, u176, u177, u178, u179, u180, u181, u182, u183, u184, u185, u186, u187, u188, u189, u190, u191, u192, u193, u194, u195, u196, u197, u198, u199, u200, u201, u202, u203, u204, u205, u206, u207, u208, u209, u210, u211, u212, u213, u214, u215], []⟩ ((w.alloc ZO).alloc (.cells zeroA 30)) := by
  conv => arg 2; whnf
  go_upto_if 66 with fail
  by_cases hA : n < A4 + 2
  · have hA' : (n : Int) - A4 < 2 := by omega
    go_wp2_with fail
    refine ret_region _ 67 _ false _ _ _ w.heap.size (w.heap.size + 1) zeroA zeroA (by omega) (by simp) rfl rfl (cmdR _ _) rfl (cmdC _ _) ⟨_, _, _, _, _, _, _, _, _, _, _, _, _, _, _, _, _, _, _, _, rfl⟩ ?_
    go_step
    go_step
    go_step
    refine ret_post 67 false _ _ _ w.heap.size _ (by omega) (by simp) rfl rfl (cmdR _ _) ⟨_, _, _, _, _, _, _, _, _, _, _, _, _, _, _, _, _, _, _, _, rfl⟩ ?_
    refine ⟨f, o, p, _, false, Hh.out, rfl, ⟨_, _, _, _, _, _, _, _, _, _, _, _, _, _, _, _, _, _, _, _, rfl⟩, .inl ⟨rfl, ?_⟩, ?_⟩
    · refine .inr (.inr (.inr ?_))
      rw [Hn.out]; unfold q7 q6; rw [← HA4.out]; omega
    · exact ((((Below.refl _ w).alloc (Nat.le_refl _) _).alloc (by simp) _).drew).trans (Lib.below_setCells_w (Nat.le_refl _) _ _ _)
  have hA' : ¬ (n : Int) - A4 < 2 := by omega
  go_wp2_with fail
  refine (zBE_any g n n bs (A4) (A4) 2 (by omega) _ (bs2 hbs hg _ _) Hn.out (by omega) (by omega) hmax).mono ?_
  rintro e w' ⟨rfl, rfl⟩
  obtain ⟨KL, eKL⟩ : ∃ KL : Nat, KL = be bs (A4) 2 := ⟨_, rfl⟩
  rw [← eKL]
  have EKL : Hid (KL = be bs (A4) 2) := eKL
  have lKL : KL < 256 ^ 2 := by rw [eKL]; exact be_lt bs (A4) 2
  clear eKL
  have hKLb : KL < 65536 := lKL
  clear lKL
  obtain ⟨T, hT⟩ : ∃ T, T = A4 + 2 + KL := ⟨_, rfl⟩
  have HKL : Hid (KL = keyLen bs f p) := by unfold Hid keyLen; rw [← HA4.out]; exact EKL.out
  have HT : Hid (T = q6 bs f p) := by unfold Hid q6; rw [← HA4.out, ← HKL.out]; exact hT
  have h4T : A4 + 2 + KL ≤ T := by omega
  have hT4 : T ≤ A4 + 2 + KL := by omega
  have hTi : (A4 : Int) + 2 + KL = T := by omega
  clear hT EKL
  go_upto_if 79 with fail
  by_cases ho : o = 4
  · have Ho : Hid (o = 4) := ho
    have ho' : (o == 4) = true := by simp [ho]
    clear ho
    by_cases h4 : n < T + 4
    · have h4' : (n : Int) - T < 4 := by omega
      go_wp2_with fail
      refine ret_region _ 84 _ false _ _ _ w.heap.size (w.heap.size + 1) zeroA zeroA (by omega) (by simp) rfl rfl (cmdR _ _) rfl (cmdC _ _) ⟨_, _, _, _, _, _, _, _, _, _, _, _, _, _, _, _, _, _, _, _, rfl⟩ ?_
      go_step
      go_step
      go_step
      refine ret_post 84 false _ _ _ w.heap.size _ (by omega) (by simp) rfl rfl (cmdR _ _) ⟨_, _, _, _, _, _, _, _, _, _, _, _, _, _, _, _, _, _, _, _, rfl⟩ ?_
      refine ⟨f, o, p, _, false, Hh.out, rfl, ⟨_, _, _, _, _, _, _, _, _, _, _, _, _, _, _, _, _, _, _, _, rfl⟩, .inl ⟨rfl, ?_⟩, ?_⟩
      · refine .inr (.inr (.inr ?_))
        rw [Hn.out]; unfold q7 tailW; rw [← HT.out, if_pos Ho.out]; omega
      · exact ((((Below.refl _ w).alloc (Nat.le_refl _) _).alloc (by simp) _).drew).trans (Lib.below_setCells_w (Nat.le_refl _) _ _ _)
    have h4' : ¬ (n : Int) - T < 4 := by omega
    go_wp2_with fail
    refine (zBE_any g n n bs (T) (T) 4 (by omega) _ (bs2 hbs hg _ _) Hn.out (by omega) (by omega) hmax).mono ?_
    rintro e w' ⟨rfl, rfl⟩
    obtain ⟨OL, eOL⟩ : ∃ OL : Nat, OL = be bs (T) 4 := ⟨_, rfl⟩
    rw [← eOL]
    have EOL : Hid (OL = be bs (T) 4) := eOL
    have lOL : OL < 256 ^ 4 := by rw [eOL]; exact be_lt bs (T) 4
    clear eOL
    have hOLb : OL < 4294967296 := lOL
    clear lOL
    have HOL : Hid (o = 4 → OL = oldLen bs f p) := fun _ => by unfold oldLen; rw [← HT.out]; exact EOL.out
    clear EOL
    have hm : ((n : Int) - T - 4) % 18446744073709551616 = (n : Int) - T - 4 := by omega
    by_cases h5 : n < T + 4 + OL
    · have h5' : (n : Int) - T - 4 < OL := by omega
      go_wp2_with fail
      refine ret_region _ 95 _ false _ _ _ w.heap.size (w.heap.size + 1) zeroA zeroA (by omega) (by simp) rfl rfl (cmdR _ _) rfl (cmdC _ _) ⟨_, _, _, _, _, _, _, _, _, _, _, _, _, _, _, _, _, _, _, _, rfl⟩ ?_
      go_step
      go_step
      go_step
      refine ret_post 95 false _ _ _ w.heap.size _ (by omega) (by simp) rfl rfl (cmdR _ _) ⟨_, _, _, _, _, _, _, _, _, _, _, _, _, _, _, _, _, _, _, _, rfl⟩ ?_
      refine ⟨f, o, p, _, false, Hh.out, rfl, ⟨_, _, _, _, _, _, _, _, _, _, _, _, _, _, _, _, _, _, _, _, rfl⟩, .inl ⟨rfl, ?_⟩, ?_⟩
      · refine .inr (.inr (.inr ?_))
        rw [Hn.out]; unfold q7 tailW; rw [← HT.out, if_pos Ho.out, ← HOL.out Ho.out]; omega
      · exact ((((Below.refl _ w).alloc (Nat.le_refl _) _).alloc (by simp) _).drew).trans (Lib.below_setCells_w (Nat.le_refl _) _ _ _)
    have h5' : ¬ (n : Int) - T - 4 < OL := by omega
    go_upto_if 94 with fail
    have fin : ∀ (V1 : Nat) (sv : Int), sv = (V1 : Int) → V1 = T + (4 + OL) → ∀ u16 : Value, ∀ u17 : Value, ∀ u18 : Value, ∀ u19 : Value, ∀ u20 : Value, ∀ u21 : Value, ∀ u22 : Value, ∀ u23 : Value, ∀ u24 : Value, ∀ u25 : Value, ∀ u26 : Value, ∀ u27 : Value, ∀ u28 : Value, ∀ u29 : Value, ∀ u30 : Value, ∀ u31 : Value, ∀ u32 : Value, ∀ u33 : Value, ∀ u34 : Value, ∀ u35 : Value, ∀ u36 : Value, ∀ u37 : Value, ∀ u38 : Value, ∀ u39 : Value, ∀ u40 : Value, ∀ u41 : Value, ∀ u42 : Value, ∀ u43 : Value, ∀ u44 : Value, ∀ u45 : Value, ∀ u46 : Value, ∀ u47 : Value, ∀ u48 : Value, ∀ u49 : Value, ∀ u50 : Value, ∀ u51 : Value, ∀ u52 : Value, ∀ u53 : Value, ∀ u54 : Value, ∀ u55 : Value, ∀ u56 : Value, ∀ u57 : Value, ∀ u58 : Value, ∀ u59 : Value, ∀ u60 : Value, ∀ u61 : Value, ∀ u62 : Value, ∀ u63 : Value, ∀ u64 : Value, ∀ u65 : Value, ∀ u66 : Value, ∀ u67 : Value, ∀ u68 : Value, ∀ u69 : Value, ∀ u70 : Value, ∀ u71 : Value, ∀ u72 : Value, ∀ u73 : Value, ∀ u74 : Value, ∀ u75 : Value, ∀ u76 : Value, ∀ u77 : Value, ∀ u78 : Value, ∀ u79 : Value, ∀ u80 : Value, ∀ u81 : Value, ∀ u82 : Value, ∀ u83 : Value, ∀ u84 : Value, ∀ u85 : Value, ∀ u86 : Value, ∀ u87 : Value, ∀ u88 : Value, ∀ u89 : Value, ∀ u90 : Value, ∀ u91 : Value, ∀ u92 : Value, ∀ u93 : Value, ∀ u94 : Value, ∀ u95 : Value, ∀ u96 : Value, ∀ u97 : Value, ∀ u98 : Value, ∀ u99 : Value, ∀ u100 : Value, ∀ u101 : Value, ∀ u102 : Value, ∀ u103 : Value, ∀ u104 : Value, ∀ u105 : Value, ∀ u106 : Value, ∀ u107 : Value, ∀ u108 : Value, ∀ u109 : Value, ∀ u110 : Value, ∀ u111 : Value, ∀ u112 : Value, ∀ u113 : Value, ∀ u114 : Value, ∀ u115 : Value, ∀ u116 : Value, ∀ u117 : Value, ∀ u118 : Value, ∀ u119 : Value, ∀ u120 : Value, ∀ u121 : Value, ∀ u122 : Value, ∀ u123 : Value, ∀ u124 : Value, ∀ u125 : Value, ∀ u126 : Value, ∀ u127 : Value, ∀ u128 : Value, ∀ u129 : Value, ∀ u130 : Value, ∀ u131 : Value, ∀ u132 : Value, ∀ u133 : Value, ∀ u134 : Value, ∀ u135 : Value, ∀ u136 : Value, ∀ u137 : Value, ∀ u138 : Value, ∀ u139 : Value, ∀ u140 : Value, ∀ u141 : Value, ∀ u142 : Value, ∀ u143 : Value, ∀ u144 : Value, ∀ u145 : Value, ∀ u146 : Value, ∀ u147 : Value, ∀ u148 : Value, ∀ u149 : Value, ∀ u150 : Value, ∀ u151 : Value, ∀ u152 : Value, ∀ u153 : Value, ∀ u154 : Value, ∀ u155 : Value, ∀ u156 : Value, ∀ u157 : Value, ∀ u158 : Value, ∀ u159 : Value, ∀ u160 : Value, ∀ u161 : Value, ∀ u162 : Value, ∀ u163 : Value, ∀ u164 : Value, ∀ u165 : Value, ∀ u166 : Value, ∀ u167 : Value, ∀ u168 : Value, ∀ u169 : Value, ∀ u170 : Value, ∀ u171 : Value, ∀ u172 : Value, ∀ u173 : Value, ∀ u174 : Value, ∀ u175 : Value, ∀ u176 : Value, ∀ u177 : Value, ∀ u178 : Value, ∀ u179 : Value, ∀ u180 : Value, ∀ u181 : Value, ∀ u182 : Value, ∀ u183 : Value, ∀ u184 : Value, ∀ u185 : Value, ∀ u186 : Value, ∀ u187 : Value, ∀ u188 : Value, ∀ u189 : Value, ∀ u190 : Value, ∀ u191 : Value, ∀ u192 : Value, ∀ u193 : Value, ∀ u194 : Value, ∀ u195 : Value, ∀ u196 : Value, ∀ u197 : Value, ∀ u198 : Value, ∀ u199 : Value, ∀ u200 : Value, ∀ u201 : Value, ∀ u202 : Value, ∀ u203 : Value, ∀ u204 : Value, ∀ u205 : Value, ∀ u206 : Value, ∀ u207 : Value, ∀ u208 : Value, ∀ u209 : Value, ∀ u210 : Value, ∀ u211 : Value, ∀ u212 : Value, ∀ u213 : Value, ∀ u214 : Value, ∀ u215 : Value, Code.wp Tryf.prog (dropS 22 (Tryf.f6.body.getD .skip)) (bodyPost Tryf.prog Tryf.f6 fun e w' => LayEnd w g bs e w') ⟨#[.slice (some ⟨g, 0, none⟩) n n, undef, .bool false, .pointer (some ⟨w.heap.size, 0, none⟩), .pointer (some ⟨w.heap.size + 1, 0, none⟩), .int .i64 (n : Int), .int .u8 f, .int .u8 o, .int .i64 sv, .int .i64 (p : Int), .int .i64 (A2 : Int), .int .i64 (A3 : Int), .int .i64 (KL : Int), .int .i64 ((A4 : Int) + 2), .int .i64 (T : Int), .int .i64 (OL : Int), u16, u17, u18, u19, u20, u21, u22, u23, u24, u25, u26, u27, u28, u29, u30, u31, u32, u33, u34, u35, u36, u37, u38, u39, u40, u41, u42, u43, u44, u45, u46, u47, u48, u49, u50, u51, u52, u53, u54, u55, u56, u57, u58, u59, u60, u61, u62, u63, u64, u65, u66, u67, u68, u69, u70, u71, u72, u73, u74, u75, u76, u77, u78, u79, u80, u81, u82, u83, u84, u85, u86, u87, u88, u89, u90, u91, u92, u93, u94, u95, u96, u97, u98, u99, u100, u101, u102, u103, u104, u105, u106, u107, u108, u109, u110, u111, u112, u113, u114, u115, u116, u117, u118, u119, u120, u121, u122, u123, u124, u125, u126, u127, u128, u129, u130, u131, u132, u133, u134, u135, u136, u137, u138, u139, u140, u141, u142, u143, u144, u145, u146, u147, u148, u149, u150, u151, u152, u153, u154, u155, u156, u157, u158, u159, u160, u161, u162, u163, u164, u165, u166, u167, u168, u169, u170, u171, u172, u173, u174, u175, u176, u177, u178, u179, u180, u181, u182, u183, u184, u185, u186, u187, u188, u189, u190, u191, u192, u193, u194, u195, u196, u197, u198, u199, u200, u201, u202, u203, u204, u205, u206, u207, u208, u209, u210, u211, u212, u213, u214, u215], []⟩ ((w.alloc ZO).alloc (.cells zeroA 30)) := fun V1 sv h1 h2 _ _ _ _ _ _ _ _ _ _ _ _ _ _ _ _ _ _ _ _ _ _ _ _ _ _ _ _ _ _ _ _ _ _ _ _ _ _ _ _ _ _ _ _ _ _ _ _ _ _ _ _ _ _ _ _ _ _ _ _ _ _ _ _ _ _ _ _ _ _ _ _ _ _ _ _ _ _ _ _ _ _ _ _ _ _ _ _ _ _ _ _ _ _ _ _ _ _ _ _ _ _ _ _ _ _ _ _ _ _ _ _ _ _ _ _ _ _ _ _ _ _ _ _ _ _ _ _ _ _ _ _ _ _ _ _ _ _ _ _ _ _ _ _ _ _ _ _ _ _ _ _ _ _ _ _ _ _ _ _ _ _ _ _ _ _ _ _ _ _ _ _ _ _ _ _ _ _ _ _ _ _ _ _ _ _ _ _ _ _ _ _ _ _ _ _ _ _ _ _ => lay_22 g n bs w hg hbs Hn hmax f o p A2 A3 A4 KL T V1 OL sv _ _ _ _ _ _ _ _ _ _ _ _ _ _ _ _ _ _ _ _ _ _ _ _ _ _ _ _ _ _ _ _ _ _ _ _ _ _ _ _ _ _ _ _ _ _ _ _ _ _ _ _ _ _ _ _ _ _ _ _ _ _ _ _ _ _ _ _ _ _ _ _ _ _ _ _ _ _ _ _ _ _ _ _ _ _ _ _ _ _ _ _ _ _ _ _ _ _ _ _ _ _ _ _ _ _ _ _ _ _ _ _ _ _ _ _ _ _ _ _ _ _ _ _ _ _ _ _ _ _ _ _ _ _ _ _ _ _ _ _ _ _ _ _ _ _ _ _ _ _ _ _ _ _ _ _ _ _ _ _ _ _ _ _ _ _ _ _ _ _ _ _ _ _ _ _ _ _ _ _ _ _ _ _ _ _ _ _ _ _ _ _ _ _ _ _ _ _ _ _ _ _ Hh ho1 ho10 hpn hpA h23 h34 h4T hT4 (by omega) hKLb HA2 HA3 HA4 HKL HT HOL (by omega) (by omega) (by unfold Hid; rw [if_pos Ho.out]; exact h2) h1 rfl rfl
    go_step
    go_step
    go_step
    go_step
    repeat (first | exact fin (T + (4 + OL)) _ (by push_cast; omega) rfl _ _ _ _ _ _ _ _ _ _ _ _ _ _ _ _ _ _ _ _ _ _ _ _ _ _ _ _ _ _ _ _ _ _ _ _ _ _ _ _ _ _ _ _ _ _ _ _ _ _ _ _ _ _ _ _ _ _ _ _ _ _ _ _ _ _ _ _ _ _ _ _ _ _ _ _ _ _ _ _ _ _ _ _ _ _ _ _ _ _ _ _ _ _ _ _ _ _ _ _ _ _ _ _ _ _ _ _ _ _ _ _ _ _ _ _ _ _ _ _ _ _ _ _ _ _ _ _ _ _ _ _ _ _ _ _ _ _ _ _ _ _ _ _ _ _ _ _ _ _ _ _ _ _ _ _ _ _ _ _ _ _ _ _ _ _ _ _ _ _ _ _ _ _ _ _ _ _ _ _ _ _ _ _ _ _ _ _ _ _ _ _ _ _ _ _ _ _ _ _ | go_step)
  · have Ho : Hid (¬ o = 4) := ho
    have ho' : (o == 4) = false := by simpa using ho
    clear ho
    go_step
    go_step
    go_step
    go_step
    exact lay_22 g n bs w hg hbs Hn hmax f o p A2 A3 A4 KL T T 0 _ _ _ _ _ _ _ _ _ _ _ _ _ _ _ _ _ _ _ _ _ _ _ _ _ _ _ _ _ _ _ _ _ _ _ _ _ _ _ _ _ _ _ _ _ _ _ _ _ _ _ _ _ _ _ _ _ _ _ _ _ _ _ _ _ _ _ _ _ _ _ _ _ _ _ _ _ _ _ _ _ _ _ _ _ _ _ _ _ _ _ _ _ _ _ _ _ _ _ _ _ _ _ _ _ _ _ _ _ _ _ _ _ _ _ _ _ _ _ _ _ _ _ _ _ _ _ _ _ _ _ _ _ _ _ _ _ _ _ _ _ _ _ _ _ _ _ _ _ _ _ _ _ _ _ _ _ _ _ _ _ _ _ _ _ _ _ _ _ _ _ _ _ _ _ _ _ _ _ _ _ _ _ _ _ _ _ _ _ _ _ _ _ _ _ _ _ _ _ _ _ _ _ Hh ho1 ho10 hpn hpA h23 h34 h4T hT4 (by omega) hKLb HA2 HA3 HA4 HKL HT (fun h => absurd h Ho.out) (Nat.le_refl _) (by omega) (by unfold Hid; rw [if_neg Ho.out]; rfl) rfl rfl rfl

end Go.Proofs.Qxb6614561aFmt
