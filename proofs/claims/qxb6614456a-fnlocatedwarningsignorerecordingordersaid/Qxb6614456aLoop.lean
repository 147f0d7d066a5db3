/-
  THE WALK of the law's own loop.
-/
import Derived.Test.Qxb6614456aRegE
import Derived.Deep.CutRange
import Derived.Deep.DeepCutAuto
namespace Go.Proofs.Qxb6614456a
open Go Go.RowKit Go.Sort Go.Shelf Go.Lib
set_option linter.unusedVariables false

set_option maxHeartbeats 16000000 in
set_option maxRecDepth 1000000 in
theorem law_loop (w0 w : World) (hb0 : RowKit.Below w0.heap.size w0 w) (ao r1 r2 : Option Addr) (n c G1 G2 : Nat) (L C : Nat → Int) (P1 : Nat → ByteArray) (J1 : Nat → Bool) (M1 : Nat → ByteArray) (P2 : Nat → ByteArray) (J2 : Nat → Bool) (M2 : Nat → ByteArray)
    (hn2 : n ≤ 1048576) (hr : 0 < n → r1 = some ⟨G1, 0, none⟩ ∧ r2 = some ⟨G2, 0, none⟩) (hT : Twin w G1 G2 n L C P1 J1 M1 P2 J2 M2) (u0 u2 u3 u4 u5 u6 u7 u9 u11 u12 u13 u14 u15 u16 u17 u18 u19 u20 u21 u22 u23 u24 u25 u26 u27 u28 u29 u30 u31 u32 u33 u34 u35 u36 u37 u38 u39 u40 u41 u42 u43 u44 u45 u46 u47 u48 u49 u50 u51 u52 u53 u54 u55 u56 u57 u58 u59 u60 u61 u62 u63 u64 u65 u66 u67 u68 u69 u70 u71 u72 u73 u74 u75 u76 u77 u78 u79 u80 u81 u82 u83 u84 u85 u86 u87 u88 u89 u90 u91 u92 u93 u94 u95 u96 u97 u98 u99 u100 u101 u102 u103 u104 u105 u106 u107 u108 u109 u110 u111 u112 u113 u114 u115 u116 u117 u118 u119 u120 u121 u122 u123 u124 u125 u126 u127 u128 u129 u130 u131 u132 u133 u134 u135 u136 u137 u138 u139 u140 u141 u142 u143 u144 u145 u146 u147 u148 u149 u150 u151 u152 u153 u154 u155 u156 u157 u158 u159 u160 : Value) :
    Code.wp Try.prog (dropC 9 (Try.f5.body.getD .skip)) (bodyPost Try.prog Try.f5 fun e w' => e = .returned (.bool true) ∧ RowKit.Below w0.heap.size w0 w') ⟨#[u0, .slice ao n c, u2, u3, u4, u5, u6, u7, .slice r1 n n, u9, .slice r2 n n, u11, u12, u13, u14, u15, u16, u17, u18, u19, u20, u21, u22, u23, u24, u25, u26, u27, u28, u29, u30, u31, u32, u33, u34, u35, u36, u37, u38, u39, u40, u41, u42, u43, u44, u45, u46, u47, u48, u49, u50, u51, u52, u53, u54, u55, u56, u57, u58, u59, u60, u61, u62, u63, u64, u65, u66, u67, u68, u69, u70, u71, u72, u73, u74, u75, u76, u77, u78, u79, u80, u81, u82, u83, u84, u85, u86, u87, u88, u89, u90, u91, u92, u93, u94, u95, u96, u97, u98, u99, u100, u101, u102, u103, u104, u105, u106, u107, u108, u109, u110, u111, u112, u113, u114, u115, u116, u117, u118, u119, u120, u121, u122, u123, u124, u125, u126, u127, u128, u129, u130, u131, u132, u133, u134, u135, u136, u137, u138, u139, u140, u141, u142, u143, u144, u145, u146, u147, u148, u149, u150, u151, u152, u153, u154, u155, u156, u157, u158, u159, u160], []⟩ w := by
  have mixed : Try.prog.follows .mixedOrders = true := by kernel_rfl
  have Hr : Hid (0 < n → r1 = some ⟨G1, 0, none⟩ ∧ r2 = some ⟨G2, 0, none⟩) := hr
  have HT : Hid (Twin w G1 G2 n L C P1 J1 M1 P2 J2 M2) := hT
  have Hb0 : Hid (RowKit.Below w0.heap.size w0 w) := hb0
  have hne : ((n : Int) != (n : Int)) = false := by simp
  clear hr hT hb0
  conv => arg 2; whnf
  go_wp2_with fail
  go_loopg [70] n (fun kx s70 wr => ∃ p : Nat, s70 = .int .i64 p ∧ p ≤ n ∧ n - p ≤ kx ∧ Hid (RowKit.Below w.heap.size w wr))
  case atStart => exact ⟨0, rfl, by omega, by omega, RowKit.Below.refl _ _⟩
  case round =>
    obtain ⟨p, rfl, hpn, hkx, HB⟩ := hrel
    by_cases hlt : p < n
    · have hlt' : (p : Int) < n := by omega
      obtain ⟨rfl, rfl⟩ := Hr.out (by omega)
      go_upto_region 17 with fail
      refine reg17 w wr HB.out n G1 G2 p L C P1 J1 M1 P2 J2 M2 hn2 hlt HT.out _ _ _ _ _ _ _ _ _ _ _ _ _ _ _ _ _ _ _ _ _ _ _ _ _ _ _ _ _ _ _ _ _ _ _ _ _ _ _ _ _ _ _ _ _ _ _ _ _ _ _ _ _ _ _ _ _ _ _ _ _ _ _ _ _ _ _ _ _ _ _ _ _ _ _ _ _ _ _ _ _ _ _ _ _ _ _ _ _ _ _ _ _ _ _ _ _ _ _ _ _ _ _ _ _ _ _ _ _ _ _ _ _ _ _ _ _ _ _ _ _ _ _ _ _ _ _ _ _ _ _ _ _ _ _ _ _ _ _ _ _ _ _ _ _ _ _ _ _ _ _ _ _ _ _ _ _ _ _ (fun y73 y74 y75 y76 y77 y78 y79 y80 y81 y82 y83 y84 y85 y86 y87 y88 y89 y90 y91 y92 y93 y94 y95 y96 y97 wa ha => ?_)
      have HA : Hid (RowKit.Below w.heap.size w wa) := ha
      clear ha
      go_upto_region 19 with fail
      refine reg19 w wa HA.out n G1 G2 p L C P1 J1 M1 P2 J2 M2 hn2 hlt HT.out _ _ _ _ _ _ _ _ _ _ _ _ _ _ _ _ _ _ _ _ _ _ _ _ _ _ _ _ _ _ _ _ _ _ _ _ _ _ _ _ _ _ _ _ _ _ _ _ _ _ _ _ _ _ _ _ _ _ _ _ _ _ _ _ _ _ _ _ _ _ _ _ _ _ _ _ _ _ _ _ _ _ _ _ _ _ _ _ _ _ _ _ _ _ _ _ _ _ _ _ _ _ _ _ _ _ _ _ _ _ _ _ _ _ _ _ _ _ _ _ _ _ _ _ _ _ _ _ _ _ _ _ _ _ _ _ _ _ _ _ _ _ _ _ _ _ _ _ _ _ _ _ _ _ _ _ _ _ _ (fun y99 y100 y101 y102 y103 y104 y105 y106 y107 y108 y109 y110 y111 wb hb => ?_)
      have HBb : Hid (RowKit.Below w.heap.size w wb) := hb
      clear hb
      go_upto_region 21 with fail
      refine reg21 w wb HBb.out n G1 G2 p L C P1 J1 M1 P2 J2 M2 hn2 hlt HT.out _ _ _ _ _ _ _ _ _ _ _ _ _ _ _ _ _ _ _ _ _ _ _ _ _ _ _ _ _ _ _ _ _ _ _ _ _ _ _ _ _ _ _ _ _ _ _ _ _ _ _ _ _ _ _ _ _ _ _ _ _ _ _ _ _ _ _ _ _ _ _ _ _ _ _ _ _ _ _ _ _ _ _ _ _ _ _ _ _ _ _ _ _ _ _ _ _ _ _ _ _ _ _ _ _ _ _ _ _ _ _ _ _ _ _ _ _ _ _ _ _ _ _ _ _ _ _ _ _ _ _ _ _ _ _ _ _ _ _ _ _ _ _ _ _ _ _ _ _ _ _ _ _ _ _ _ _ _ _ (fun y113 y114 y115 y116 y117 y118 y119 y120 y121 y122 y123 y124 y125 y126 y127 y128 y129 y130 y131 y132 y133 y134 y135 y136 y137 y138 y139 y140 y141 y142 y143 y144 y145 y146 y147 b wd hL hd => ?_)
      have HL : Hid (b = true → P2 p = P1 p ∧ J2 p = J1 p ∧ M2 p = M1 p) := hL
      have HD : Hid (RowKit.Below w.heap.size w wd) := hd
      clear hL hd
      go_upto_region 22 with fail
      refine reg22 w wd HD.out n G1 G2 p L C P1 J1 M1 P2 J2 M2 hn2 hlt HT.out b HL.out _ _ _ _ _ _ _ _ _ _ _ _ _ _ _ _ _ _ _ _ _ _ _ _ _ _ _ _ _ _ _ _ _ _ _ _ _ _ _ _ _ _ _ _ _ _ _ _ _ _ _ _ _ _ _ _ _ _ _ _ _ _ _ _ _ _ _ _ _ _ _ _ _ _ _ _ _ _ _ _ _ _ _ _ _ _ _ _ _ _ _ _ _ _ _ _ _ _ _ _ _ _ _ _ _ _ _ _ _ _ _ _ _ _ _ _ _ _ _ _ _ _ _ _ _ _ _ _ _ _ _ _ _ _ _ _ _ _ _ _ _ _ _ _ _ _ _ _ _ _ _ _ _ _ _ _ _ _ (fun y148 y149 y150 y151 y152 y153 y154 y155 y156 y157 y158 wf hf => ?_)
      have HFf : Hid (RowKit.Below w.heap.size w wf) := hf
      clear hf
      go_wp2_with fail
      go_roundg (n - (p + 1))
      case measure => omega
      case rel => exact ⟨p + 1, by go_num, by omega, Nat.le_refl _, HFf.out⟩
    · have hlt' : ¬ (p : Int) < n := by omega
      go_wp2_with fail
      go_ret
      exact ⟨rfl, Hb0.out.trans (HB.out.mono Hb0.out.size)⟩
end Go.Proofs.Qxb6614456a
