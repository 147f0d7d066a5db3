/-
  THE WALK of slices.symMergeCmpFunc at elements of k cells: both runs of more than one element.
-/
import Derived.Test.Qxb6614456aSymD
namespace Go.Proofs.Qxb6614456a
open Go Go.Shelf Go.RowKit Go.Lib Go.Sort
variable {P : Program} {α : Type} [Inhabited α]

set_option maxHeartbeats 4000000 in
set_option maxRecDepth 1000000 in
theorem symC {k : Nat} (L : Lz P k) (enc : α → List Value) (cf : α → α → Int) (g : Nat) (cb : Array Value) (blk off cap a m b : Nat) (d0 d : Array α) (w0 w : World) (hO : SWO (ltOf cf))
    (eg : ∀ args w, (callFunc g args).run P w = .ok (.enter g args) w) (hcmp : CmpLays P g cb enc k cf blk off d.size w0)
    (R : RowK enc k w0 blk off d0) (hs : d0.size = d.size) (S : SWK enc k w0 blk off d w) (ham : a + 1 < m) (hmb : m + 1 < b) (hb : b ≤ d.size) (hsz : d.size < 4611686018427387904) (hA : SortedIn (ltOf cf) a m d) (hB : SortedIn (ltOf cf) m b d)
    (ih : ∀ (a' m' b' : Nat) (dk : Array α) (W : World), a' < m' → m' < b' → b' - a' < b - a → b' ≤ d.size → dk.size = d.size → SWK enc k w0 blk off dk W → SortedIn (ltOf cf) a' m' dk → SortedIn (ltOf cf) m' b' dk →
      Calls P 41 #[.slice (some ⟨blk, off, none⟩) d.size cap, .int .i64 a', .int .i64 m', .int .i64 b', .func (.func g) #[] cb] W fun e w' => e = .returned (.tuple #[]) ∧ ∃ d', PermIn a' b' dk d' ∧ SortedIn (ltOf cf) a' b' d' ∧ SWK enc k w0 blk off d' w') :
    Calls P 41 #[.slice (some ⟨blk, off, none⟩) d.size cap, .int .i64 a, .int .i64 m, .int .i64 b, .func (.func g) #[] cb] w fun e w' => e = .returned (.tuple #[]) ∧ ∃ d', PermIn a b d d' ∧ SortedIn (ltOf cf) a b d' ∧ SWK enc k w0 blk off d' w' := by
  have mixed := L.mixed; have t0 := L.t0; have a0 := L.a0; have z0 := L.z0; have v0 := L.v0; have t3 := L.t3; have a3 := L.a3; have z3 := L.z3; have v3 := L.v3; have t4 := L.t4; have a4 := L.a4; have z4 := L.z4; have v4 := L.v4; have t61 := L.t61; have a61 := L.a61; have z61 := L.z61; have v61 := L.v61; have t120 := L.t120; have a120 := L.a120; have z120 := L.z120; have v120 := L.v120; have aE := L.aE; have zE := L.zE
  have t130 := L.t130; have a130 := L.a130; have z130 := L.z130; have v130 := L.v130
  have FG := L.f41
  have S0 : Aside (SWK enc k w0 blk off d w) := S
  have HC : Aside _ := hcmp
  have e41 := L.e41
  have e42 := L.e42
  have HA : Hid (SortedIn (ltOf cf) a m d) := hA
  have HB : Hid (SortedIn (ltOf cf) m b d) := hB
  have IH : Aside _ := ih
  have ROT : Aside (∀ (W : World) (s e : Nat), SWK enc k w0 blk off d W → s < m → m < e → e ≤ d.size → Calls P 42 #[.slice (some ⟨blk, off, none⟩) d.size cap, .int .i64 s, .int .i64 m, .int .i64 e, .func (.func g) #[] cb] W fun e' w' => e' = .returned (.tuple #[]) ∧ ∃ d', Rot d d' s (m - s) (e - m) ∧ PermIn s e d d' ∧ SWK enc k w0 blk off d' w') :=
    fun W s e h1 h2 h3 h4 => rotate_any L enc _ blk off cap s m e d0 d w0 W R hs h1 h2 h3 h4 hsz
  have hm0 : ((m : Int) - (a : Int) == 1) = false := by simp; omega
  have hm1 : ((b : Int) - (m : Int) == 1) = false := by simp; omega
  obtain ⟨mid, hmid⟩ : ∃ mid, mid = (a + b) / 2 := ⟨_, rfl⟩
  have hmidz : ((a : Int) + (b : Int)) / 2 = (mid : Int) := by omega
  have hmid1 : a < mid := by omega
  have hmid2 : mid < b := by omega
  have hmid3 : 2 * mid ≤ a + b := by omega
  have hmid4 : a + b ≤ 2 * mid + 1 := by omega
  obtain ⟨n, hn⟩ : ∃ n, n = mid + m := ⟨_, rfl⟩
  have hnz : (mid : Int) + (m : Int) = (n : Int) := by omega
  have hn1 : n ≤ mid + m := by omega
  have hn2 : mid + m ≤ n := by omega
  have HN : Hid (n = mid + m) := hn
  obtain ⟨p, hp⟩ : ∃ p, n = p + 1 := ⟨n - 1, by omega⟩
  have hpz : (n : Int) - 1 = (p : Int) := by omega
  have hp1 : n ≤ p + 1 := by omega
  have hp2 : p + 1 ≤ n := by omega
  have LL : Aside _ := L
  clear S L hcmp hA hB ih hmid hn hp
  go_enter FG, Try.ntmps41
  go_upto_if 140 with fail
  go_cut [20, 21] (fun s20 s21 wx => ∃ lo hi : Nat, s20 = .int .i64 lo ∧ s21 = .int .i64 hi ∧ a ≤ lo ∧ lo ≤ hi ∧ hi ≤ m ∧ hi ≤ mid ∧ n ≤ lo + b ∧ Hid (lo = a ∨ n = lo + b) ∧ Hid (hi = m ∨ hi = mid) ∧ Aside (SWK enc k w0 blk off d wx))
  case first =>
    by_cases hgt : mid < m
    · have hgtz : (mid : Int) < (m : Int) := by omega
      go_wp2
      go_meet
      case rel => exact ⟨n - b, mid, by congr 1; omega, rfl, by omega, by omega, by omega, Nat.le_refl _, by omega, .inr (by omega), .inr rfl, S0⟩
    · have hgtz : ¬ (mid : Int) < (m : Int) := by omega
      go_wp2
      go_meet
      case rel => exact ⟨a, m, rfl, rfl, Nat.le_refl _, by omega, Nat.le_refl _, by omega, by omega, .inl rfl, .inl rfl, S0⟩
  case rest =>
  clear S0
  obtain ⟨lo, hi, rfl, rfl, hal, hlh, hhm, hhd, hnl, HLO, HHI, SL⟩ := hcut
  go_wp2
  go_loopg [20, 21] (hi - lo) (fun kx s10 s11 wr => ∃ i j : Nat, s10 = .int .i64 i ∧ s11 = .int .i64 j ∧ lo ≤ i ∧ i ≤ j ∧ j ≤ hi ∧ j - i ≤ kx ∧ Aside (SWK enc k w0 blk off d wr) ∧ Hid (i = lo ∨ ltOf cf d[n - i]! d[i - 1]! = false) ∧ Hid (j = hi ∨ ltOf cf d[n - 1 - j]! d[j]! = true))
  case atStart => exact ⟨lo, hi, rfl, rfl, Nat.le_refl _, hlh, Nat.le_refl _, Nat.le_refl _, SL, .inl rfl, .inl rfl⟩
  case round =>
    clear SL
    obtain ⟨i, j, rfl, rfl, hmi, hij, hjb, hkx, S1, HX, HY⟩ := hrel
    by_cases hlt : i < j
    · have hltz : (i : Int) < (j : Int) := by omega
      obtain ⟨h, hh0⟩ : ∃ h, h = (i + j) / 2 := ⟨_, rfl⟩
      have hh : ((i : Int) + (j : Int)) / 2 = (h : Int) := by omega
      have hih : i ≤ h := by omega
      have hhj : h < j := by omega
      obtain ⟨z, hz0⟩ : ∃ z, z = p - h := ⟨_, rfl⟩
      have hzz : (p : Int) - (h : Int) = (z : Int) := by omega
      have hzb : z < b := by omega
      have hzw : IntKind.i64.wrap (z : Int) = (z : Int) := by rw [IntKind.wrap_i64]; omega
      have HZ : Hid (z = n - (h + 1) ∧ z = n - 1 - h) := ⟨by omega, by omega⟩
      clear hh0 hz0
      cases hlv : ltOf cf d[z]! d[h]!
      · -- not less: start = c + 1
        have ha1 : (z : Int) < (d.size : Int) := by omega
        have hb1 : (h : Int) < (d.size : Int) := by omega
        obtain ⟨x1, hx1⟩ : ∃ x, x = d[z]! := ⟨_, rfl⟩
        obtain ⟨y1, hy1⟩ : ∃ x, x = d[h]! := ⟨_, rfl⟩
        have l1a := S1.out.ld R (by omega) P (z) (by omega)
        have l1b := S1.out.ld R (by omega) P (h) (by omega)
        rw [← hx1] at l1a
        rw [← hy1] at l1b
        have hc1 := S1.out.cmp HC.out (by omega) x1 y1
        have hv1 : ¬ cf x1 y1 < 0 := by rw [hx1, hy1]; exact of_decide_eq_false hlv
        have hd1 : decide (cf x1 y1 < 0) = false := decide_eq_false hv1
        have HLV : Hid (ltOf cf d[z]! d[h]! = false) := hlv
        clear hx1 hy1 hlv
        go_wp2_with fail
        go_quiet_grown (first | (go_at_fn g; refine Calls.grown_of (hc1 _ _)))
        have SU2 : Aside (SWK enc k w0 blk off d (grow (wr.drewN nq) osq)) := S1.out.grown nq osq
        clear l1a l1b hc1 S1
        generalize grow (wr.drewN nq) osq = wu2 at SU2 ⊢
        clear nq osq
        go_wp2
        go_roundg (j - (h + 1))
        case measure => omega
        case rel =>
          refine ⟨h + 1, j, by go_num, rfl, by omega, by omega, hjb, Nat.le_refl _, SU2, .inr ?_, HY⟩
          rw [← HZ.out.1]; exact HLV.out
      · -- less: r = c
        have ha2 : (z : Int) < (d.size : Int) := by omega
        have hb2 : (h : Int) < (d.size : Int) := by omega
        obtain ⟨x2, hx2⟩ : ∃ x, x = d[z]! := ⟨_, rfl⟩
        obtain ⟨y2, hy2⟩ : ∃ x, x = d[h]! := ⟨_, rfl⟩
        have l2a := S1.out.ld R (by omega) P (z) (by omega)
        have l2b := S1.out.ld R (by omega) P (h) (by omega)
        rw [← hx2] at l2a
        rw [← hy2] at l2b
        have hc2 := S1.out.cmp HC.out (by omega) x2 y2
        have hv2 : cf x2 y2 < 0 := by rw [hx2, hy2]; exact of_decide_eq_true hlv
        have hd2 : decide (cf x2 y2 < 0) = true := decide_eq_true hv2
        have HLV : Hid (ltOf cf d[z]! d[h]! = true) := hlv
        clear hx2 hy2 hlv
        go_wp2_with fail
        go_quiet_grown (first | (go_at_fn g; refine Calls.grown_of (hc2 _ _)))
        have SU2 : Aside (SWK enc k w0 blk off d (grow (wr.drewN nq) osq)) := S1.out.grown nq osq
        clear l2a l2b hc2 S1
        generalize grow (wr.drewN nq) osq = wu2 at SU2 ⊢
        clear nq osq
        go_wp2
        go_roundg (h - i)
        case measure => omega
        case rel =>
          refine ⟨i, h, rfl, rfl, hmi, hih, by omega, Nat.le_refl _, SU2, HX, .inr ?_⟩
          rw [← HZ.out.2]; exact HLV.out
    · have hltz : ¬ (i : Int) < (j : Int) := by omega
      obtain rfl : i = j := by omega
      clear hlt hltz
      obtain ⟨e, he⟩ : ∃ e, e = n - i := ⟨_, rfl⟩
      have hez : (n : Int) - (i : Int) = (e : Int) := by omega
      have he1 : m ≤ e := by omega
      have he2 : e ≤ b := by omega
      have hse : i + e ≤ mid + m := by omega
      have hse2 : mid + m ≤ i + e := by omega
      have hai : a ≤ i := by omega
      have him : i ≤ m := by omega
      have hid : i ≤ mid := by omega
      have hde : mid ≤ e := by omega
      have HE1 : Hid (i = a ∨ e = b ∨ ltOf cf d[e]! d[i - 1]! = false) := by
        rcases HX.out with h1 | h1
        · rcases HLO.out with h2 | h2
          · exact .inl (by omega)
          · exact .inr (.inl (by omega))
        · exact .inr (.inr (by rw [he]; exact h1))
      have HE2 : Hid (i = m ∨ e = m ∨ ltOf cf d[e - 1]! d[i]! = true) := by
        rcases HY.out with h1 | h1
        · rcases HHI.out with h2 | h2
          · exact .inl (by omega)
          · exact .inr (.inl (by omega))
        · refine .inr (.inr ?_)
          rw [show e - 1 = n - 1 - i by omega]; exact h1
      clear he HX HY HLO HHI
      have hpos : Hid (i + e = mid + m) := by unfold Hid; omega
      clear hse hse2
      have fin : ∀ (u5 u6 u7 u8 u9 u10 u11 u12 u13 u14 u15 u16 u17 u23 u25 u26 u27 u28 u29 u30 u31 u32 u33 u34 u35 u36 u37 u38 u39 u40 u41 u42 u43 u44 u45 u46 u47 u48 u49 u50 u51 u52 u53 u54 u55 u56 u57 u58 u59 u60 u61 u62 u63 u64 u65 u66 u67 u68 u69 u70 u71 u72 u73 u74 u75 u76 u77 u78 u79 u80 u81 u82 u83 u84 u85 u86 u87 u88 u89 u90 u91 u92 u93 u94 u95 u96 u97 u98 u99 u100 u101 u102 u103 u104 u105 u106 u107 u108 u109 u110 u111 u112 u113 u114 u115 u116 u117 u118 u119 u120 u121 u122 u123 u124 u125 u126 u127 u128 u129 u130 u131 u132 u133 u134 u135 u136 u137 u138 u139 u140 u141 u142 u143 u144 u145 u146 u147 u148 u149 u150 u151 u152 u153 u154 u155 u156 u157 u158 u159 u160 u161 u162 u163 u164 u165 u166 u167 u168 u169 u170 u171 u172 u173 u174 u175 u176 u177 u178 u179 u180 u181 u182 u183 u184 u185 u186 u187 u188 u189 u190 u191 u192 u193 u194 u195 u196 u197 u198 u199 u200 u201 u202 u203 u204 u205 u206 u207 u208 u209 u210 u211 u212 u213 u214 u215 u216 u217 u218 u219 : Value), Code.wp P (dropS 9 (Try.f41.body.getD .skip)) (bodyPost P Try.f41 fun e w' => e = .returned (.tuple #[]) ∧ ∃ d', PermIn a b d d' ∧ SortedIn (ltOf cf) a b d' ∧ SWK enc k w0 blk off d' w') ⟨#[.slice (some ⟨blk, off, none⟩) d.size cap, .int .i64 a, .int .i64 m, .int .i64 b, .func (.func g) #[] cb, u5, u6, u7, u8, u9, u10, u11, u12, u13, u14, u15, u16, u17, .int .i64 mid, .int .i64 n, .int .i64 i, .int .i64 i, .int .i64 p, u23, .int .i64 e, u25, u26, u27, u28, u29, u30, u31, u32, u33, u34, u35, u36, u37, u38, u39, u40, u41, u42, u43, u44, u45, u46, u47, u48, u49, u50, u51, u52, u53, u54, u55, u56, u57, u58, u59, u60, u61, u62, u63, u64, u65, u66, u67, u68, u69, u70, u71, u72, u73, u74, u75, u76, u77, u78, u79, u80, u81, u82, u83, u84, u85, u86, u87, u88, u89, u90, u91, u92, u93, u94, u95, u96, u97, u98, u99, u100, u101, u102, u103, u104, u105, u106, u107, u108, u109, u110, u111, u112, u113, u114, u115, u116, u117, u118, u119, u120, u121, u122, u123, u124, u125, u126, u127, u128, u129, u130, u131, u132, u133, u134, u135, u136, u137, u138, u139, u140, u141, u142, u143, u144, u145, u146, u147, u148, u149, u150, u151, u152, u153, u154, u155, u156, u157, u158, u159, u160, u161, u162, u163, u164, u165, u166, u167, u168, u169, u170, u171, u172, u173, u174, u175, u176, u177, u178, u179, u180, u181, u182, u183, u184, u185, u186, u187, u188, u189, u190, u191, u192, u193, u194, u195, u196, u197, u198, u199, u200, u201, u202, u203, u204, u205, u206, u207, u208, u209, u210, u211, u212, u213, u214, u215, u216, u217, u218, u219], []⟩ wr := fun u5 u6 u7 u8 u9 u10 u11 u12 u13 u14 u15 u16 u17 u23 u25 u26 u27 u28 u29 u30 u31 u32 u33 u34 u35 u36 u37 u38 u39 u40 u41 u42 u43 u44 u45 u46 u47 u48 u49 u50 u51 u52 u53 u54 u55 u56 u57 u58 u59 u60 u61 u62 u63 u64 u65 u66 u67 u68 u69 u70 u71 u72 u73 u74 u75 u76 u77 u78 u79 u80 u81 u82 u83 u84 u85 u86 u87 u88 u89 u90 u91 u92 u93 u94 u95 u96 u97 u98 u99 u100 u101 u102 u103 u104 u105 u106 u107 u108 u109 u110 u111 u112 u113 u114 u115 u116 u117 u118 u119 u120 u121 u122 u123 u124 u125 u126 u127 u128 u129 u130 u131 u132 u133 u134 u135 u136 u137 u138 u139 u140 u141 u142 u143 u144 u145 u146 u147 u148 u149 u150 u151 u152 u153 u154 u155 u156 u157 u158 u159 u160 u161 u162 u163 u164 u165 u166 u167 u168 u169 u170 u171 u172 u173 u174 u175 u176 u177 u178 u179 u180 u181 u182 u183 u184 u185 u186 u187 u188 u189 u190 u191 u192 u193 u194 u195 u196 u197 u198 u199 u200 u201 u202 u203 u204 u205 u206 u207 u208 u209 u210 u211 u212 u213 u214 u215 u216 u217 u218 u219 => sym_9 LL.out enc cf g cb blk off cap a m b mid n p i e d0 d w0 u5 u6 u7 u8 u9 u10 u11 u12 u13 u14 u15 u16 u17 u23 u25 u26 u27 u28 u29 u30 u31 u32 u33 u34 u35 u36 u37 u38 u39 u40 u41 u42 u43 u44 u45 u46 u47 u48 u49 u50 u51 u52 u53 u54 u55 u56 u57 u58 u59 u60 u61 u62 u63 u64 u65 u66 u67 u68 u69 u70 u71 u72 u73 u74 u75 u76 u77 u78 u79 u80 u81 u82 u83 u84 u85 u86 u87 u88 u89 u90 u91 u92 u93 u94 u95 u96 u97 u98 u99 u100 u101 u102 u103 u104 u105 u106 u107 u108 u109 u110 u111 u112 u113 u114 u115 u116 u117 u118 u119 u120 u121 u122 u123 u124 u125 u126 u127 u128 u129 u130 u131 u132 u133 u134 u135 u136 u137 u138 u139 u140 u141 u142 u143 u144 u145 u146 u147 u148 u149 u150 u151 u152 u153 u154 u155 u156 u157 u158 u159 u160 u161 u162 u163 u164 u165 u166 u167 u168 u169 u170 u171 u172 u173 u174 u175 u176 u177 u178 u179 u180 u181 u182 u183 u184 u185 u186 u187 u188 u189 u190 u191 u192 u193 u194 u195 u196 u197 u198 u199 u200 u201 u202 u203 u204 u205 u206 u207 u208 u209 u210 u211 u212 u213 u214 u215 u216 u217 u218 u219 hmid1 hmid2 hb hsz hai him he1 he2 hid hde hO IH ROT hpos HA HB HE1 HE2 wr S1
      clear IH ROT HA HB HE1 HE2
      repeat (first | exact fin _ _ _ _ _ _ _ _ _ _ _ _ _ _ _ _ _ _ _ _ _ _ _ _ _ _ _ _ _ _ _ _ _ _ _ _ _ _ _ _ _ _ _ _ _ _ _ _ _ _ _ _ _ _ _ _ _ _ _ _ _ _ _ _ _ _ _ _ _ _ _ _ _ _ _ _ _ _ _ _ _ _ _ _ _ _ _ _ _ _ _ _ _ _ _ _ _ _ _ _ _ _ _ _ _ _ _ _ _ _ _ _ _ _ _ _ _ _ _ _ _ _ _ _ _ _ _ _ _ _ _ _ _ _ _ _ _ _ _ _ _ _ _ _ _ _ _ _ _ _ _ _ _ _ _ _ _ _ _ _ _ _ _ _ _ _ _ _ _ _ _ _ _ _ _ _ _ _ _ _ _ _ _ _ _ _ _ _ _ _ _ _ _ _ _ _ _ _ _ _ _ _ _ _ _ _ _ _ _ | go_step)
end Go.Proofs.Qxb6614456a
