/-
  THE WALK of slices.symMergeCmpFunc at elements of k cells: behind the search: the rotation and the two merges within.
-/
import Derived.Test.Qxb6614456aSymB
import Derived.Deep.CutRange
import Derived.Deep.DeepCutAuto
namespace Go.Proofs.Qxb6614456a
open Go Go.Shelf Go.RowKit Go.Lib Go.Sort
set_option linter.unusedVariables false
variable {P : Program} {α : Type} [Inhabited α]

/-- The code behind the first k statements. -/
def dropS : Nat → Code → Code
  | 0, c => c
  | k + 1, .seq _ b => dropS k b
  | _, c => c

/-- The four runs behind the rotation. -/
theorem runs {lt : α → α → Bool} {a m b mid s e : Nat} {d d1 : Array α} (hse : s + e = mid + m) (h1 : a ≤ s) (h2 : s ≤ m) (h3 : m ≤ e) (h4 : e ≤ b) (hA : SortedIn lt a m d) (hB : SortedIn lt m b d) (hR : Rot d d1 s (m - s) (e - m)) :
    SortedIn lt a s d1 ∧ SortedIn lt s mid d1 ∧ SortedIn lt mid e d1 ∧ SortedIn lt e b d1 := by
  refine ⟨fun x y x1 xy y2 => ?_, fun x y x1 xy y2 => ?_, fun x y x1 xy y2 => ?_, fun x y x1 xy y2 => ?_⟩
  · rw [hR.out (x := x) (by omega), hR.out (x := y) (by omega)]
    exact hA _ _ x1 xy (by omega)
  · rw [hR.lo (x := x) (by omega) (by omega), hR.lo (x := y) (by omega) (by omega)]
    exact hB _ _ (by omega) (by omega) (by omega)
  · rw [hR.hi (x := x) (by omega) (by omega), hR.hi (x := y) (by omega) (by omega)]
    exact hA _ _ (by omega) (by omega) (by omega)
  · rw [hR.out (x := x) (by omega), hR.out (x := y) (by omega)]
    exact hB _ _ (by omega) xy y2

theorem sorted_same {lt : α → α → Bool} {a b : Nat} {d d' : Array α} (h : SortedIn lt a b d) (he : ∀ i, a ≤ i → i < b → d'[i]! = d[i]!) : SortedIn lt a b d' := fun i j i1 ij j2 => by
  rw [he i i1 (by omega), he j (by omega) j2]
  exact h i j i1 ij j2

set_option maxHeartbeats 4000000 in
set_option maxRecDepth 1000000 in
theorem sym_11 {k : Nat} (L : Lz P k) (enc : α → List Value) (cf : α → α → Int) (g : Nat) (cb : Array Value) (blk off cap a m b mid n p i e : Nat) (d0 d : Array α) (w0 : World) (u5 u6 u7 u8 u9 u10 u11 u12 u13 u14 u15 u16 u17 u23 u25 u26 u27 u28 u29 u30 u31 u32 u33 u34 u35 u36 u37 u38 u39 u40 u41 u42 u43 u44 u45 u46 u47 u48 u49 u50 u51 u52 u53 u54 u55 u56 u57 u58 u59 u60 u61 u62 u63 u64 u65 u66 u67 u68 u69 u70 u71 u72 u73 u74 u75 u76 u77 u78 u79 u80 u81 u82 u83 u84 u85 u86 u87 u88 u89 u90 u91 u92 u93 u94 u95 u96 u97 u98 u99 u100 u101 u102 u103 u104 u105 u106 u107 u108 u109 u110 u111 u112 u113 u114 u115 u116 u117 u118 u119 u120 u121 u122 u123 u124 u125 u126 u127 u128 u129 u130 u131 u132 u133 u134 u135 u136 u137 u138 u139 u140 u141 u142 u143 u144 u145 u146 u147 u148 u149 u150 u151 u152 u153 u154 u155 u156 u157 u158 u159 u160 u161 u162 u163 u164 u165 u166 u167 u168 u169 u170 u171 u172 u173 u174 u175 u176 u177 u178 u179 u180 u181 u182 u183 u184 u185 u186 u187 u188 u189 u190 u191 u192 u193 u194 u195 u196 u197 u198 u199 u200 u201 u202 u203 u204 u205 u206 u207 u208 u209 u210 u211 u212 u213 u214 u215 u216 u217 u218 u219 : Value) (hmid1 : a < mid) (hmid2 : mid < b) (hb : b ≤ d.size) (hsz : d.size < 4611686018427387904) (hai : a ≤ i) (him : i ≤ m) (he1 : m ≤ e) (he2 : e ≤ b) (hid : i ≤ mid) (hde : mid ≤ e) (IH : Aside (∀ (a' m' b' : Nat) (dk : Array α) (W : World), a' < m' → m' < b' → b' - a' < b - a → b' ≤ d.size → dk.size = d.size → SWK enc k w0 blk off dk W → SortedIn (ltOf cf) a' m' dk → SortedIn (ltOf cf) m' b' dk →
      Calls P 41 #[.slice (some ⟨blk, off, none⟩) d.size cap, .int .i64 a', .int .i64 m', .int .i64 b', .func (.func g) #[] cb] W fun e w' => e = .returned (.tuple #[]) ∧ ∃ d', PermIn a' b' dk d' ∧ SortedIn (ltOf cf) a' b' d' ∧ SWK enc k w0 blk off d' w')) (W : World) (d2 : Array α) (hz2 : d2.size = d.size) (S2 : Aside (SWK enc k w0 blk off d2 W))
    (HR3 : Hid (SortedIn (ltOf cf) mid e d2 ∧ SortedIn (ltOf cf) e b d2)) (FIN : Aside (∀ (d3 : Array α) (w' : World), SWK enc k w0 blk off d3 w' → PermIn mid b d2 d3 → SortedIn (ltOf cf) mid b d3 → ∃ d', PermIn a b d d' ∧ SortedIn (ltOf cf) a b d' ∧ SWK enc k w0 blk off d' w')) :
    Code.wp P (dropS 11 (Try.f41.body.getD .skip)) (bodyPost P Try.f41 fun e w' => e = .returned (.tuple #[]) ∧ ∃ d', PermIn a b d d' ∧ SortedIn (ltOf cf) a b d' ∧ SWK enc k w0 blk off d' w') ⟨#[.slice (some ⟨blk, off, none⟩) d.size cap, .int .i64 a, .int .i64 m, .int .i64 b, .func (.func g) #[] cb, u5, u6, u7, u8, u9, u10, u11, u12, u13, u14, u15, u16, u17, .int .i64 mid, .int .i64 n, .int .i64 i, .int .i64 i, .int .i64 p, u23, .int .i64 e, u25, u26, u27, u28, u29, u30, u31, u32, u33, u34, u35, u36, u37, u38, u39, u40, u41, u42, u43, u44, u45, u46, u47, u48, u49, u50, u51, u52, u53, u54, u55, u56, u57, u58, u59, u60, u61, u62, u63, u64, u65, u66, u67, u68, u69, u70, u71, u72, u73, u74, u75, u76, u77, u78, u79, u80, u81, u82, u83, u84, u85, u86, u87, u88, u89, u90, u91, u92, u93, u94, u95, u96, u97, u98, u99, u100, u101, u102, u103, u104, u105, u106, u107, u108, u109, u110, u111, u112, u113, u114, u115, u116, u117, u118, u119, u120, u121, u122, u123, u124, u125, u126, u127, u128, u129, u130, u131, u132, u133, u134, u135, u136, u137, u138, u139, u140, u141, u142, u143, u144, u145, u146, u147, u148, u149, u150, u151, u152, u153, u154, u155, u156, u157, u158, u159, u160, u161, u162, u163, u164, u165, u166, u167, u168, u169, u170, u171, u172, u173, u174, u175, u176, u177, u178, u179, u180, u181, u182, u183, u184, u185, u186, u187, u188, u189, u190, u191, u192, u193, u194, u195, u196, u197, u198, u199, u200, u201, u202, u203, u204, u205, u206, u207, u208, u209, u210, u211, u212, u213, u214, u215, u216, u217, u218, u219], []⟩ W := by
  have mixed := L.mixed; have t0 := L.t0; have a0 := L.a0; have z0 := L.z0; have v0 := L.v0; have t3 := L.t3; have a3 := L.a3; have z3 := L.z3; have v3 := L.v3; have t4 := L.t4; have a4 := L.a4; have z4 := L.z4; have v4 := L.v4; have t61 := L.t61; have a61 := L.a61; have z61 := L.z61; have v61 := L.v61; have t120 := L.t120; have a120 := L.a120; have z120 := L.z120; have v120 := L.v120; have aE := L.aE; have zE := L.zE
  have t130 := L.t130; have a130 := L.a130; have z130 := L.z130; have v130 := L.v130
  have e41 := L.e41
  have e42 := L.e42
  clear L
  conv => arg 2; whnf
  by_cases c1 : mid < e
  · by_cases c2 : e < b
    · have c1' : decide ((mid : Int) < (e : Int)) = true := decide_eq_true (by omega)
      have c2' : decide ((e : Int) < (b : Int)) = true := decide_eq_true (by omega)
      go_wp2_with fail
      refine (IH.out mid e b d2 _ c1 c2 (by omega) hb hz2 S2.out HR3.out.1 HR3.out.2).mono ?_
      rintro e' w' ⟨rfl, d3, hp3, hs3, S3⟩
      go_wp2
      go_end0
      exact ⟨rfl, FIN.out d3 _ S3 hp3 hs3⟩
    · have c1' : decide ((mid : Int) < (e : Int)) = true := decide_eq_true (by omega)
      have c2' : decide ((e : Int) < (b : Int)) = false := decide_eq_false (by omega)
      go_wp2
      go_end0
      refine ⟨rfl, FIN.out d2 _ S2.out (permIn_refl _ _ _) ?_⟩
      have h := HR3.out.1
      rw [show e = b by omega] at h
      exact h
  · have c1' : decide ((mid : Int) < (e : Int)) = false := decide_eq_false (by omega)
    go_wp2
    go_end0
    refine ⟨rfl, FIN.out d2 _ S2.out (permIn_refl _ _ _) ?_⟩
    have h := HR3.out.2
    rw [show e = mid by omega] at h
    exact h

set_option maxHeartbeats 4000000 in
set_option maxRecDepth 1000000 in
theorem sym_10 {k : Nat} (L : Lz P k) (enc : α → List Value) (cf : α → α → Int) (g : Nat) (cb : Array Value) (blk off cap a m b mid n p i e : Nat) (d0 d : Array α) (w0 : World) (u5 u6 u7 u8 u9 u10 u11 u12 u13 u14 u15 u16 u17 u23 u25 u26 u27 u28 u29 u30 u31 u32 u33 u34 u35 u36 u37 u38 u39 u40 u41 u42 u43 u44 u45 u46 u47 u48 u49 u50 u51 u52 u53 u54 u55 u56 u57 u58 u59 u60 u61 u62 u63 u64 u65 u66 u67 u68 u69 u70 u71 u72 u73 u74 u75 u76 u77 u78 u79 u80 u81 u82 u83 u84 u85 u86 u87 u88 u89 u90 u91 u92 u93 u94 u95 u96 u97 u98 u99 u100 u101 u102 u103 u104 u105 u106 u107 u108 u109 u110 u111 u112 u113 u114 u115 u116 u117 u118 u119 u120 u121 u122 u123 u124 u125 u126 u127 u128 u129 u130 u131 u132 u133 u134 u135 u136 u137 u138 u139 u140 u141 u142 u143 u144 u145 u146 u147 u148 u149 u150 u151 u152 u153 u154 u155 u156 u157 u158 u159 u160 u161 u162 u163 u164 u165 u166 u167 u168 u169 u170 u171 u172 u173 u174 u175 u176 u177 u178 u179 u180 u181 u182 u183 u184 u185 u186 u187 u188 u189 u190 u191 u192 u193 u194 u195 u196 u197 u198 u199 u200 u201 u202 u203 u204 u205 u206 u207 u208 u209 u210 u211 u212 u213 u214 u215 u216 u217 u218 u219 : Value) (hmid1 : a < mid) (hmid2 : mid < b) (hb : b ≤ d.size) (hsz : d.size < 4611686018427387904) (hai : a ≤ i) (him : i ≤ m) (he1 : m ≤ e) (he2 : e ≤ b) (hid : i ≤ mid) (hde : mid ≤ e) (IH : Aside (∀ (a' m' b' : Nat) (dk : Array α) (W : World), a' < m' → m' < b' → b' - a' < b - a → b' ≤ d.size → dk.size = d.size → SWK enc k w0 blk off dk W → SortedIn (ltOf cf) a' m' dk → SortedIn (ltOf cf) m' b' dk →
      Calls P 41 #[.slice (some ⟨blk, off, none⟩) d.size cap, .int .i64 a', .int .i64 m', .int .i64 b', .func (.func g) #[] cb] W fun e w' => e = .returned (.tuple #[]) ∧ ∃ d', PermIn a' b' dk d' ∧ SortedIn (ltOf cf) a' b' d' ∧ SWK enc k w0 blk off d' w')) (W : World) (d1 : Array α) (hz1 : d1.size = d.size) (S1 : Aside (SWK enc k w0 blk off d1 W))
    (HRUN : Hid (SortedIn (ltOf cf) a i d1 ∧ SortedIn (ltOf cf) i mid d1 ∧ SortedIn (ltOf cf) mid e d1 ∧ SortedIn (ltOf cf) e b d1)) (HCR : Hid (∀ x y, a ≤ x → x < mid → mid ≤ y → y < b → ltOf cf d1[y]! d1[x]! = false)) (HP : Hid (PermIn a b d d1)) :
    Code.wp P (dropS 10 (Try.f41.body.getD .skip)) (bodyPost P Try.f41 fun e w' => e = .returned (.tuple #[]) ∧ ∃ d', PermIn a b d d' ∧ SortedIn (ltOf cf) a b d' ∧ SWK enc k w0 blk off d' w') ⟨#[.slice (some ⟨blk, off, none⟩) d.size cap, .int .i64 a, .int .i64 m, .int .i64 b, .func (.func g) #[] cb, u5, u6, u7, u8, u9, u10, u11, u12, u13, u14, u15, u16, u17, .int .i64 mid, .int .i64 n, .int .i64 i, .int .i64 i, .int .i64 p, u23, .int .i64 e, u25, u26, u27, u28, u29, u30, u31, u32, u33, u34, u35, u36, u37, u38, u39, u40, u41, u42, u43, u44, u45, u46, u47, u48, u49, u50, u51, u52, u53, u54, u55, u56, u57, u58, u59, u60, u61, u62, u63, u64, u65, u66, u67, u68, u69, u70, u71, u72, u73, u74, u75, u76, u77, u78, u79, u80, u81, u82, u83, u84, u85, u86, u87, u88, u89, u90, u91, u92, u93, u94, u95, u96, u97, u98, u99, u100, u101, u102, u103, u104, u105, u106, u107, u108, u109, u110, u111, u112, u113, u114, u115, u116, u117, u118, u119, u120, u121, u122, u123, u124, u125, u126, u127, u128, u129, u130, u131, u132, u133, u134, u135, u136, u137, u138, u139, u140, u141, u142, u143, u144, u145, u146, u147, u148, u149, u150, u151, u152, u153, u154, u155, u156, u157, u158, u159, u160, u161, u162, u163, u164, u165, u166, u167, u168, u169, u170, u171, u172, u173, u174, u175, u176, u177, u178, u179, u180, u181, u182, u183, u184, u185, u186, u187, u188, u189, u190, u191, u192, u193, u194, u195, u196, u197, u198, u199, u200, u201, u202, u203, u204, u205, u206, u207, u208, u209, u210, u211, u212, u213, u214, u215, u216, u217, u218, u219], []⟩ W := by
  have mixed := L.mixed; have t0 := L.t0; have a0 := L.a0; have z0 := L.z0; have v0 := L.v0; have t3 := L.t3; have a3 := L.a3; have z3 := L.z3; have v3 := L.v3; have t4 := L.t4; have a4 := L.a4; have z4 := L.z4; have v4 := L.v4; have t61 := L.t61; have a61 := L.a61; have z61 := L.z61; have v61 := L.v61; have t120 := L.t120; have a120 := L.a120; have z120 := L.z120; have v120 := L.v120; have aE := L.aE; have zE := L.zE
  have t130 := L.t130; have a130 := L.a130; have z130 := L.z130; have v130 := L.v130
  have e41 := L.e41
  have e42 := L.e42
  have LL : Aside _ := L
  conv => arg 2; whnf
  by_cases c1 : a < i
  · by_cases c2 : i < mid
    · have c1' : decide ((a : Int) < (i : Int)) = true := decide_eq_true (by omega)
      have c2' : decide ((i : Int) < (mid : Int)) = true := decide_eq_true (by omega)
      go_wp2_with fail
      refine (IH.out a i mid d1 _ c1 c2 (by omega) (by omega) hz1 S1.out HRUN.out.1 HRUN.out.2.1).mono ?_
      rintro e' w' ⟨rfl, d2, hp2, hs2, S2⟩
      have HZ : Hid (d2.size = d.size) := hp2.1.trans hz1
      have S9 : Aside (SWK enc k w0 blk off d2 _) := S2
      have H9 : Hid (SortedIn (ltOf cf) mid e d2 ∧ SortedIn (ltOf cf) e b d2) := ⟨sorted_same HRUN.out.2.2.1 (fun x x1 _ => (hp2).2.1 x (.inr x1)), sorted_same HRUN.out.2.2.2 (fun x x1 _ => (hp2).2.1 x (.inr (by omega)))⟩
      have F9 : Aside (∀ (d3 : Array α) (w' : World), SWK enc k w0 blk off d3 w' → PermIn mid b d2 d3 → SortedIn (ltOf cf) mid b d3 → ∃ d', PermIn a b d d' ∧ SortedIn (ltOf cf) a b d' ∧ SWK enc k w0 blk off d' w') := fun d3 w' h1 h2 h3 => by
        obtain ⟨p1, p2⟩ := halves (Nat.le_of_lt hmid1) (Nat.le_of_lt hmid2) (by omega) HCR.out (hp2) (hs2) h2 h3
        exact ⟨d3, permIn_trans _ _ _ _ _ HP.out p1, p2, h1⟩
      dsimp only
      repeat (first | exact sym_11 L enc cf g cb blk off cap a m b mid n p i e d0 d w0 _ _ _ _ _ _ _ _ _ _ _ _ _ _ _ _ _ _ _ _ _ _ _ _ _ _ _ _ _ _ _ _ _ _ _ _ _ _ _ _ _ _ _ _ _ _ _ _ _ _ _ _ _ _ _ _ _ _ _ _ _ _ _ _ _ _ _ _ _ _ _ _ _ _ _ _ _ _ _ _ _ _ _ _ _ _ _ _ _ _ _ _ _ _ _ _ _ _ _ _ _ _ _ _ _ _ _ _ _ _ _ _ _ _ _ _ _ _ _ _ _ _ _ _ _ _ _ _ _ _ _ _ _ _ _ _ _ _ _ _ _ _ _ _ _ _ _ _ _ _ _ _ _ _ _ _ _ _ _ _ _ _ _ _ _ _ _ _ _ _ _ _ _ _ _ _ _ _ _ _ _ _ _ _ _ _ _ _ _ _ _ _ _ _ _ _ _ _ _ _ _ _ _ _ _ _ _ _ _ hmid1 hmid2 hb hsz hai him he1 he2 hid hde IH _ _ HZ.out S9 H9 F9 | go_step)
    · have c1' : decide ((a : Int) < (i : Int)) = true := decide_eq_true (by omega)
      have c2' : decide ((i : Int) < (mid : Int)) = false := decide_eq_false (by omega)
      have hsx : SortedIn (ltOf cf) a mid d1 := by
        have h := HRUN.out.1
        rw [show i = mid by omega] at h
        exact h
      have HZ : Hid (d1.size = d.size) := hz1
      have S9 : Aside (SWK enc k w0 blk off d1 _) := S1
      have H9 : Hid (SortedIn (ltOf cf) mid e d1 ∧ SortedIn (ltOf cf) e b d1) := ⟨sorted_same HRUN.out.2.2.1 (fun x x1 _ => (permIn_refl d1 a mid).2.1 x (.inr x1)), sorted_same HRUN.out.2.2.2 (fun x x1 _ => (permIn_refl d1 a mid).2.1 x (.inr (by omega)))⟩
      have F9 : Aside (∀ (d3 : Array α) (w' : World), SWK enc k w0 blk off d3 w' → PermIn mid b d1 d3 → SortedIn (ltOf cf) mid b d3 → ∃ d', PermIn a b d d' ∧ SortedIn (ltOf cf) a b d' ∧ SWK enc k w0 blk off d' w') := fun d3 w' h1 h2 h3 => by
        obtain ⟨p1, p2⟩ := halves (Nat.le_of_lt hmid1) (Nat.le_of_lt hmid2) (by omega) HCR.out (permIn_refl d1 a mid) (hsx) h2 h3
        exact ⟨d3, permIn_trans _ _ _ _ _ HP.out p1, p2, h1⟩
      clear hsx
      repeat (first | exact sym_11 L enc cf g cb blk off cap a m b mid n p i e d0 d w0 _ _ _ _ _ _ _ _ _ _ _ _ _ _ _ _ _ _ _ _ _ _ _ _ _ _ _ _ _ _ _ _ _ _ _ _ _ _ _ _ _ _ _ _ _ _ _ _ _ _ _ _ _ _ _ _ _ _ _ _ _ _ _ _ _ _ _ _ _ _ _ _ _ _ _ _ _ _ _ _ _ _ _ _ _ _ _ _ _ _ _ _ _ _ _ _ _ _ _ _ _ _ _ _ _ _ _ _ _ _ _ _ _ _ _ _ _ _ _ _ _ _ _ _ _ _ _ _ _ _ _ _ _ _ _ _ _ _ _ _ _ _ _ _ _ _ _ _ _ _ _ _ _ _ _ _ _ _ _ _ _ _ _ _ _ _ _ _ _ _ _ _ _ _ _ _ _ _ _ _ _ _ _ _ _ _ _ _ _ _ _ _ _ _ _ _ _ _ _ _ _ _ _ _ _ _ _ _ _ hmid1 hmid2 hb hsz hai him he1 he2 hid hde IH _ _ HZ.out S9 H9 F9 | go_step)
  · have c1' : decide ((a : Int) < (i : Int)) = false := decide_eq_false (by omega)
    have hsx : SortedIn (ltOf cf) a mid d1 := by
      have h := HRUN.out.2.1
      rw [show i = a by omega] at h
      exact h
    have HZ : Hid (d1.size = d.size) := hz1
    have S9 : Aside (SWK enc k w0 blk off d1 _) := S1
    have H9 : Hid (SortedIn (ltOf cf) mid e d1 ∧ SortedIn (ltOf cf) e b d1) := ⟨sorted_same HRUN.out.2.2.1 (fun x x1 _ => (permIn_refl d1 a mid).2.1 x (.inr x1)), sorted_same HRUN.out.2.2.2 (fun x x1 _ => (permIn_refl d1 a mid).2.1 x (.inr (by omega)))⟩
    have F9 : Aside (∀ (d3 : Array α) (w' : World), SWK enc k w0 blk off d3 w' → PermIn mid b d1 d3 → SortedIn (ltOf cf) mid b d3 → ∃ d', PermIn a b d d' ∧ SortedIn (ltOf cf) a b d' ∧ SWK enc k w0 blk off d' w') := fun d3 w' h1 h2 h3 => by
      obtain ⟨p1, p2⟩ := halves (Nat.le_of_lt hmid1) (Nat.le_of_lt hmid2) (by omega) HCR.out (permIn_refl d1 a mid) (hsx) h2 h3
      exact ⟨d3, permIn_trans _ _ _ _ _ HP.out p1, p2, h1⟩
    clear hsx
    repeat (first | exact sym_11 L enc cf g cb blk off cap a m b mid n p i e d0 d w0 _ _ _ _ _ _ _ _ _ _ _ _ _ _ _ _ _ _ _ _ _ _ _ _ _ _ _ _ _ _ _ _ _ _ _ _ _ _ _ _ _ _ _ _ _ _ _ _ _ _ _ _ _ _ _ _ _ _ _ _ _ _ _ _ _ _ _ _ _ _ _ _ _ _ _ _ _ _ _ _ _ _ _ _ _ _ _ _ _ _ _ _ _ _ _ _ _ _ _ _ _ _ _ _ _ _ _ _ _ _ _ _ _ _ _ _ _ _ _ _ _ _ _ _ _ _ _ _ _ _ _ _ _ _ _ _ _ _ _ _ _ _ _ _ _ _ _ _ _ _ _ _ _ _ _ _ _ _ _ _ _ _ _ _ _ _ _ _ _ _ _ _ _ _ _ _ _ _ _ _ _ _ _ _ _ _ _ _ _ _ _ _ _ _ _ _ _ _ _ _ _ _ _ _ _ _ _ _ _ hmid1 hmid2 hb hsz hai him he1 he2 hid hde IH _ _ HZ.out S9 H9 F9 | go_step)

set_option maxHeartbeats 4000000 in
set_option maxRecDepth 1000000 in
theorem sym_9 {k : Nat} (L : Lz P k) (enc : α → List Value) (cf : α → α → Int) (g : Nat) (cb : Array Value) (blk off cap a m b mid n p i e : Nat) (d0 d : Array α) (w0 : World) (u5 u6 u7 u8 u9 u10 u11 u12 u13 u14 u15 u16 u17 u23 u25 u26 u27 u28 u29 u30 u31 u32 u33 u34 u35 u36 u37 u38 u39 u40 u41 u42 u43 u44 u45 u46 u47 u48 u49 u50 u51 u52 u53 u54 u55 u56 u57 u58 u59 u60 u61 u62 u63 u64 u65 u66 u67 u68 u69 u70 u71 u72 u73 u74 u75 u76 u77 u78 u79 u80 u81 u82 u83 u84 u85 u86 u87 u88 u89 u90 u91 u92 u93 u94 u95 u96 u97 u98 u99 u100 u101 u102 u103 u104 u105 u106 u107 u108 u109 u110 u111 u112 u113 u114 u115 u116 u117 u118 u119 u120 u121 u122 u123 u124 u125 u126 u127 u128 u129 u130 u131 u132 u133 u134 u135 u136 u137 u138 u139 u140 u141 u142 u143 u144 u145 u146 u147 u148 u149 u150 u151 u152 u153 u154 u155 u156 u157 u158 u159 u160 u161 u162 u163 u164 u165 u166 u167 u168 u169 u170 u171 u172 u173 u174 u175 u176 u177 u178 u179 u180 u181 u182 u183 u184 u185 u186 u187 u188 u189 u190 u191 u192 u193 u194 u195 u196 u197 u198 u199 u200 u201 u202 u203 u204 u205 u206 u207 u208 u209 u210 u211 u212 u213 u214 u215 u216 u217 u218 u219 : Value) (hmid1 : a < mid) (hmid2 : mid < b) (hb : b ≤ d.size) (hsz : d.size < 4611686018427387904) (hai : a ≤ i) (him : i ≤ m) (he1 : m ≤ e) (he2 : e ≤ b) (hid : i ≤ mid) (hde : mid ≤ e) (hO : SWO (ltOf cf)) (IH : Aside (∀ (a' m' b' : Nat) (dk : Array α) (W : World), a' < m' → m' < b' → b' - a' < b - a → b' ≤ d.size → dk.size = d.size → SWK enc k w0 blk off dk W → SortedIn (ltOf cf) a' m' dk → SortedIn (ltOf cf) m' b' dk →
      Calls P 41 #[.slice (some ⟨blk, off, none⟩) d.size cap, .int .i64 a', .int .i64 m', .int .i64 b', .func (.func g) #[] cb] W fun e w' => e = .returned (.tuple #[]) ∧ ∃ d', PermIn a' b' dk d' ∧ SortedIn (ltOf cf) a' b' d' ∧ SWK enc k w0 blk off d' w')) (ROT : Aside (∀ (W : World) (s e : Nat), SWK enc k w0 blk off d W → s < m → m < e → e ≤ d.size → Calls P 42 #[.slice (some ⟨blk, off, none⟩) d.size cap, .int .i64 s, .int .i64 m, .int .i64 e, .func (.func g) #[] cb] W fun e' w' => e' = .returned (.tuple #[]) ∧ ∃ d', Rot d d' s (m - s) (e - m) ∧ PermIn s e d d' ∧ SWK enc k w0 blk off d' w')) (hpos : Hid (i + e = mid + m)) (HA : Hid (SortedIn (ltOf cf) a m d)) (HB : Hid (SortedIn (ltOf cf) m b d)) (HE1 : Hid (i = a ∨ e = b ∨ ltOf cf d[e]! d[i - 1]! = false)) (HE2 : Hid (i = m ∨ e = m ∨ ltOf cf d[e - 1]! d[i]! = true)) (W : World) (S1 : Aside (SWK enc k w0 blk off d W)) :
    Code.wp P (dropS 9 (Try.f41.body.getD .skip)) (bodyPost P Try.f41 fun e w' => e = .returned (.tuple #[]) ∧ ∃ d', PermIn a b d d' ∧ SortedIn (ltOf cf) a b d' ∧ SWK enc k w0 blk off d' w') ⟨#[.slice (some ⟨blk, off, none⟩) d.size cap, .int .i64 a, .int .i64 m, .int .i64 b, .func (.func g) #[] cb, u5, u6, u7, u8, u9, u10, u11, u12, u13, u14, u15, u16, u17, .int .i64 mid, .int .i64 n, .int .i64 i, .int .i64 i, .int .i64 p, u23, .int .i64 e, u25, u26, u27, u28, u29, u30, u31, u32, u33, u34, u35, u36, u37, u38, u39, u40, u41, u42, u43, u44, u45, u46, u47, u48, u49, u50, u51, u52, u53, u54, u55, u56, u57, u58, u59, u60, u61, u62, u63, u64, u65, u66, u67, u68, u69, u70, u71, u72, u73, u74, u75, u76, u77, u78, u79, u80, u81, u82, u83, u84, u85, u86, u87, u88, u89, u90, u91, u92, u93, u94, u95, u96, u97, u98, u99, u100, u101, u102, u103, u104, u105, u106, u107, u108, u109, u110, u111, u112, u113, u114, u115, u116, u117, u118, u119, u120, u121, u122, u123, u124, u125, u126, u127, u128, u129, u130, u131, u132, u133, u134, u135, u136, u137, u138, u139, u140, u141, u142, u143, u144, u145, u146, u147, u148, u149, u150, u151, u152, u153, u154, u155, u156, u157, u158, u159, u160, u161, u162, u163, u164, u165, u166, u167, u168, u169, u170, u171, u172, u173, u174, u175, u176, u177, u178, u179, u180, u181, u182, u183, u184, u185, u186, u187, u188, u189, u190, u191, u192, u193, u194, u195, u196, u197, u198, u199, u200, u201, u202, u203, u204, u205, u206, u207, u208, u209, u210, u211, u212, u213, u214, u215, u216, u217, u218, u219], []⟩ W := by
  have mixed := L.mixed; have t0 := L.t0; have a0 := L.a0; have z0 := L.z0; have v0 := L.v0; have t3 := L.t3; have a3 := L.a3; have z3 := L.z3; have v3 := L.v3; have t4 := L.t4; have a4 := L.a4; have z4 := L.z4; have v4 := L.v4; have t61 := L.t61; have a61 := L.a61; have z61 := L.z61; have v61 := L.v61; have t120 := L.t120; have a120 := L.a120; have z120 := L.z120; have v120 := L.v120; have aE := L.aE; have zE := L.zE
  have t130 := L.t130; have a130 := L.a130; have z130 := L.z130; have v130 := L.v130
  have e41 := L.e41
  have e42 := L.e42
  have LL : Aside _ := L
  conv => arg 2; whnf
  by_cases c1 : i < m
  · by_cases c2 : m < e
    · have c1' : decide ((i : Int) < (m : Int)) = true := decide_eq_true (by omega)
      have c2' : decide ((m : Int) < (e : Int)) = true := decide_eq_true (by omega)
      go_wp2_with fail
      refine (ROT.out _ i e S1.out c1 c2 (by omega)).mono ?_
      rintro e' w' ⟨rfl, d1, hr1, hp1, S2⟩
      have HZ : Hid (d1.size = d.size) := hr1.1
      have S9 : Aside (SWK enc k w0 blk off d1 _) := S2
      have HRUN : Hid (SortedIn (ltOf cf) a i d1 ∧ SortedIn (ltOf cf) i mid d1 ∧ SortedIn (ltOf cf) mid e d1 ∧ SortedIn (ltOf cf) e b d1) := runs hpos.out hai him he1 he2 HA.out HB.out (hr1)
      have HCR : Hid (∀ x y, a ≤ x → x < mid → mid ≤ y → y < b → ltOf cf d1[y]! d1[x]! = false) := cross hO hpos.out hai him he1 he2 HA.out HB.out (hr1) HE1.out HE2.out
      have HPX : Hid (PermIn a b d d1) := permIn_mono _ _ _ _ _ _ hai he2 hb hp1
      dsimp only
      repeat (first | exact sym_10 L enc cf g cb blk off cap a m b mid n p i e d0 d w0 _ _ _ _ _ _ _ _ _ _ _ _ _ _ _ _ _ _ _ _ _ _ _ _ _ _ _ _ _ _ _ _ _ _ _ _ _ _ _ _ _ _ _ _ _ _ _ _ _ _ _ _ _ _ _ _ _ _ _ _ _ _ _ _ _ _ _ _ _ _ _ _ _ _ _ _ _ _ _ _ _ _ _ _ _ _ _ _ _ _ _ _ _ _ _ _ _ _ _ _ _ _ _ _ _ _ _ _ _ _ _ _ _ _ _ _ _ _ _ _ _ _ _ _ _ _ _ _ _ _ _ _ _ _ _ _ _ _ _ _ _ _ _ _ _ _ _ _ _ _ _ _ _ _ _ _ _ _ _ _ _ _ _ _ _ _ _ _ _ _ _ _ _ _ _ _ _ _ _ _ _ _ _ _ _ _ _ _ _ _ _ _ _ _ _ _ _ _ _ _ _ _ _ _ _ _ _ _ _ hmid1 hmid2 hb hsz hai him he1 he2 hid hde IH _ _ HZ.out S9 HRUN HCR HPX | go_step)
    · have c1' : decide ((i : Int) < (m : Int)) = true := decide_eq_true (by omega)
      have c2' : decide ((m : Int) < (e : Int)) = false := decide_eq_false (by omega)
      have hrx : Rot d d i (m - i) (e - m) := by
        rw [show e - m = 0 by omega]; exact rot_none_r _ _ _
      have HZ : Hid (d.size = d.size) := rfl
      have S9 : Aside (SWK enc k w0 blk off d _) := S1
      have HRUN : Hid (SortedIn (ltOf cf) a i d ∧ SortedIn (ltOf cf) i mid d ∧ SortedIn (ltOf cf) mid e d ∧ SortedIn (ltOf cf) e b d) := runs hpos.out hai him he1 he2 HA.out HB.out (hrx)
      have HCR : Hid (∀ x y, a ≤ x → x < mid → mid ≤ y → y < b → ltOf cf d[y]! d[x]! = false) := cross hO hpos.out hai him he1 he2 HA.out HB.out (hrx) HE1.out HE2.out
      have HPX : Hid (PermIn a b d d) := permIn_refl _ _ _
      clear hrx
      repeat (first | exact sym_10 L enc cf g cb blk off cap a m b mid n p i e d0 d w0 _ _ _ _ _ _ _ _ _ _ _ _ _ _ _ _ _ _ _ _ _ _ _ _ _ _ _ _ _ _ _ _ _ _ _ _ _ _ _ _ _ _ _ _ _ _ _ _ _ _ _ _ _ _ _ _ _ _ _ _ _ _ _ _ _ _ _ _ _ _ _ _ _ _ _ _ _ _ _ _ _ _ _ _ _ _ _ _ _ _ _ _ _ _ _ _ _ _ _ _ _ _ _ _ _ _ _ _ _ _ _ _ _ _ _ _ _ _ _ _ _ _ _ _ _ _ _ _ _ _ _ _ _ _ _ _ _ _ _ _ _ _ _ _ _ _ _ _ _ _ _ _ _ _ _ _ _ _ _ _ _ _ _ _ _ _ _ _ _ _ _ _ _ _ _ _ _ _ _ _ _ _ _ _ _ _ _ _ _ _ _ _ _ _ _ _ _ _ _ _ _ _ _ _ _ _ _ _ _ hmid1 hmid2 hb hsz hai him he1 he2 hid hde IH _ _ HZ.out S9 HRUN HCR HPX | go_step)
  · have c1' : decide ((i : Int) < (m : Int)) = false := decide_eq_false (by omega)
    have hrx : Rot d d i (m - i) (e - m) := by
      rw [show m - i = 0 by omega]; exact rot_none_l _ _ _
    have HZ : Hid (d.size = d.size) := rfl
    have S9 : Aside (SWK enc k w0 blk off d _) := S1
    have HRUN : Hid (SortedIn (ltOf cf) a i d ∧ SortedIn (ltOf cf) i mid d ∧ SortedIn (ltOf cf) mid e d ∧ SortedIn (ltOf cf) e b d) := runs hpos.out hai him he1 he2 HA.out HB.out (hrx)
    have HCR : Hid (∀ x y, a ≤ x → x < mid → mid ≤ y → y < b → ltOf cf d[y]! d[x]! = false) := cross hO hpos.out hai him he1 he2 HA.out HB.out (hrx) HE1.out HE2.out
    have HPX : Hid (PermIn a b d d) := permIn_refl _ _ _
    clear hrx
    repeat (first | exact sym_10 L enc cf g cb blk off cap a m b mid n p i e d0 d w0 _ _ _ _ _ _ _ _ _ _ _ _ _ _ _ _ _ _ _ _ _ _ _ _ _ _ _ _ _ _ _ _ _ _ _ _ _ _ _ _ _ _ _ _ _ _ _ _ _ _ _ _ _ _ _ _ _ _ _ _ _ _ _ _ _ _ _ _ _ _ _ _ _ _ _ _ _ _ _ _ _ _ _ _ _ _ _ _ _ _ _ _ _ _ _ _ _ _ _ _ _ _ _ _ _ _ _ _ _ _ _ _ _ _ _ _ _ _ _ _ _ _ _ _ _ _ _ _ _ _ _ _ _ _ _ _ _ _ _ _ _ _ _ _ _ _ _ _ _ _ _ _ _ _ _ _ _ _ _ _ _ _ _ _ _ _ _ _ _ _ _ _ _ _ _ _ _ _ _ _ _ _ _ _ _ _ _ _ _ _ _ _ _ _ _ _ _ _ _ _ _ _ _ _ _ _ _ _ _ hmid1 hmid2 hb hsz hai him he1 he2 hid hde IH _ _ HZ.out S9 HRUN HCR HPX | go_step)

end Go.Proofs.Qxb6614456a
