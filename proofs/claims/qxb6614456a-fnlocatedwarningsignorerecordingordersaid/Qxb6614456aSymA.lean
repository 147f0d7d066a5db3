/-
  THE WALK of slices.symMergeCmpFunc at elements of k cells: one element ahead of the run.
-/
import Derived.Test.Qxb6614456aRotate
namespace Go.Proofs.Qxb6614456a
open Go Go.Shelf Go.RowKit Go.Lib Go.Sort
variable {P : Program} {α : Type} [Inhabited α]

set_option maxHeartbeats 4000000 in
set_option maxRecDepth 1000000 in
theorem symA {k : Nat} (L : Lz P k) (enc : α → List Value) (cf : α → α → Int) (g : Nat) (cb : Array Value) (blk off cap a b : Nat) (d0 d : Array α) (w0 w : World) (hO : SWO (ltOf cf))
    (eg : ∀ args w, (callFunc g args).run P w = .ok (.enter g args) w) (hcmp : CmpLays P g cb enc k cf blk off d.size w0)
    (R : RowK enc k w0 blk off d0) (hs : d0.size = d.size) (S : SWK enc k w0 blk off d w) (hmb : a + 1 < b) (hb : b ≤ d.size) (hsz : d.size < 4611686018427387904) (hB : SortedIn (ltOf cf) (a + 1) b d) :
    Calls P 41 #[.slice (some ⟨blk, off, none⟩) d.size cap, .int .i64 a, .int .i64 ((a + 1 : Nat) : Int), .int .i64 b, .func (.func g) #[] cb] w fun e w' => e = .returned (.tuple #[]) ∧ ∃ d', PermIn a b d d' ∧ SortedIn (ltOf cf) a b d' ∧ SWK enc k w0 blk off d' w' := by
  have mixed := L.mixed; have t0 := L.t0; have a0 := L.a0; have z0 := L.z0; have v0 := L.v0; have t3 := L.t3; have a3 := L.a3; have z3 := L.z3; have v3 := L.v3; have t4 := L.t4; have a4 := L.a4; have z4 := L.z4; have v4 := L.v4; have t61 := L.t61; have a61 := L.a61; have z61 := L.z61; have v61 := L.v61; have t120 := L.t120; have a120 := L.a120; have z120 := L.z120; have v120 := L.v120; have aE := L.aE; have zE := L.zE
  have t130 := L.t130; have a130 := L.a130; have z130 := L.z130; have v130 := L.v130
  have FG := L.f41
  have S0 : Aside (SWK enc k w0 blk off d w) := S
  have HC : Aside _ := hcmp
  have HB : Hid (SortedIn (ltOf cf) (a + 1) b d) := hB
  obtain ⟨m, hm⟩ : ∃ m, m = a + 1 := ⟨_, rfl⟩
  have HM : Hid (m = a + 1) := hm
  have hm1 : (m : Int) - (a : Int) = 1 := by omega
  have ham : a < m := by omega
  have hmb' : m < b := by omega
  rw [← hm]
  clear S L hcmp hB hm hmb
  go_enter FG, Try.ntmps41
  go_wp2
  go_loopg [10, 11] (b - m) (fun kx s10 s11 wr => ∃ i j : Nat, s10 = .int .i64 i ∧ s11 = .int .i64 j ∧ m ≤ i ∧ i ≤ j ∧ j ≤ b ∧ j - i ≤ kx ∧ Aside (SWK enc k w0 blk off d wr) ∧ Hid (i = m ∨ ltOf cf d[i - 1]! d[a]! = true) ∧ Hid (j = b ∨ ltOf cf d[j]! d[a]! = false))
  case atStart => exact ⟨m, b, rfl, rfl, Nat.le_refl _, by omega, Nat.le_refl _, Nat.le_refl _, S0, .inl rfl, .inl rfl⟩
  case round =>
    clear S0
    obtain ⟨i, j, rfl, rfl, hmi, hij, hjb, hkx, S1, HX, HY⟩ := hrel
    by_cases hlt : i < j
    · have hltz : (i : Int) < (j : Int) := by omega
      obtain ⟨h, hh0⟩ : ∃ h, h = (i + j) / 2 := ⟨_, rfl⟩
      have hh : ((i : Int) + (j : Int)) / 2 = (h : Int) := by omega
      have hih : i ≤ h := by omega
      have hhj : h < j := by omega
      clear hh0
      cases hlv : ltOf cf d[h]! d[a]!
      · -- not less: j = h
        have ha1 : (h : Int) < (d.size : Int) := by omega
        have hb1 : (a : Int) < (d.size : Int) := by omega
        obtain ⟨x1, hx1⟩ : ∃ x, x = d[h]! := ⟨_, rfl⟩
        obtain ⟨y1, hy1⟩ : ∃ x, x = d[a]! := ⟨_, rfl⟩
        have l1a := S1.out.ld R (by omega) P (h) (by omega)
        have l1b := S1.out.ld R (by omega) P (a) (by omega)
        rw [← hx1] at l1a
        rw [← hy1] at l1b
        have hc1 := S1.out.cmp HC.out (by omega) x1 y1
        have hv1 : ¬ cf x1 y1 < 0 := by rw [hx1, hy1]; exact of_decide_eq_false hlv
        have hd1 : decide (cf x1 y1 < 0) = false := decide_eq_false hv1
        have HLV : Hid (ltOf cf d[h]! d[a]! = false) := hlv
        clear hx1 hy1 hlv
        go_wp2_with fail
        go_quiet_grown (first | (go_at_fn g; refine Calls.grown_of (hc1 _ _)))
        have SU2 : Aside (SWK enc k w0 blk off d (grow (wr.drewN nq) osq)) := S1.out.grown nq osq
        clear l1a l1b hc1 S1
        generalize grow (wr.drewN nq) osq = wu2 at SU2 ⊢
        clear nq osq
        go_wp2
        go_roundg (h - i)
        case measure => omega
        case rel => exact ⟨i, h, rfl, rfl, hmi, hih, by omega, Nat.le_refl _, SU2, HX, .inr HLV.out⟩
      · -- less: i = h + 1
        have ha2 : (h : Int) < (d.size : Int) := by omega
        have hb2 : (a : Int) < (d.size : Int) := by omega
        obtain ⟨x2, hx2⟩ : ∃ x, x = d[h]! := ⟨_, rfl⟩
        obtain ⟨y2, hy2⟩ : ∃ x, x = d[a]! := ⟨_, rfl⟩
        have l2a := S1.out.ld R (by omega) P (h) (by omega)
        have l2b := S1.out.ld R (by omega) P (a) (by omega)
        rw [← hx2] at l2a
        rw [← hy2] at l2b
        have hc2 := S1.out.cmp HC.out (by omega) x2 y2
        have hv2 : cf x2 y2 < 0 := by rw [hx2, hy2]; exact of_decide_eq_true hlv
        have hd2 : decide (cf x2 y2 < 0) = true := decide_eq_true hv2
        have HLV : Hid (ltOf cf d[h]! d[a]! = true) := hlv
        clear hx2 hy2 hlv
        go_wp2_with fail
        go_quiet_grown (first | (go_at_fn g; refine Calls.grown_of (hc2 _ _)))
        have SU2 : Aside (SWK enc k w0 blk off d (grow (wr.drewN nq) osq)) := S1.out.grown nq osq
        clear l2a l2b hc2 S1
        generalize grow (wr.drewN nq) osq = wu2 at SU2 ⊢
        clear nq osq
        go_wp2
        go_roundg (j - (h + 1))
        case measure => omega
        case rel => exact ⟨h + 1, j, by go_num, rfl, by omega, by omega, hjb, Nat.le_refl _, SU2, .inr HLV.out, HY⟩
    · have hltz : ¬ (i : Int) < (j : Int) := by omega
      obtain rfl : i = j := by omega
      obtain ⟨ip, hip⟩ : ∃ ip, i = ip + 1 := ⟨i - 1, by omega⟩
      have hipz : (i : Int) - 1 = (ip : Int) := by omega
      have hip1 : ip + 1 ≤ i := by omega
      have hip2 : i ≤ ip + 1 := by omega
      clear hip hlt hltz
      go_wp2
      go_loopg [13] (b - a) (fun kx s13 wr => ∃ (q : Nat) (dk : Array α), s13 = .int .i64 q ∧ a ≤ q ∧ q ≤ ip ∧ ip - q ≤ kx ∧ dk.size = d.size ∧ Aside (SWK enc k w0 blk off dk wr) ∧ Hid (PermIn a b d dk) ∧ Hid (Rot d dk a 1 (q - a)))
      case atStart => exact ⟨a, d, rfl, Nat.le_refl _, by omega, by omega, rfl, S1, permIn_refl _ _ _, by rw [Nat.sub_self]; exact rot_none_r _ _ _⟩
      case round =>
        clear S1
        obtain ⟨q, dk, rfl, haq, hqi, hkx2, hds, S3, HP, HR⟩ := hrel
        by_cases hq : q < ip
        · have hqz : (q : Int) < (ip : Int) := by omega
          obtain ⟨y, hy⟩ : ∃ y, y = q + 1 := ⟨_, rfl⟩
          have hyz : (q : Int) + 1 = (y : Int) := by omega
          have hq1 : (q : Int) < (d.size : Int) := by omega
          have hy1 : (y : Int) < (d.size : Int) := by omega
          have hyq : q < y := by omega
          have hyb : y ≤ ip := by omega
          have HYQ : Hid (y = q + 1) := hy
          clear hy
          have S2 : Aside (SWK enc k w0 blk off (swp dk q y) ((wr.drew.setCells blk (off + q * k) (enc dk[y]!)).setCells blk (off + y * k) (enc dk[q]!))) := S3.out.swapped R q y (by omega) (by omega)
          have l3a := S3.out.ld1 R (by omega) P q (by omega)
          have l3b := S3.out.ld1 R (by omega) P y (by omega)
          have s3a := S3.out.st1 R (by omega) P q (by omega) dk[y]!
          have s3b := S3.out.st2 R (by omega) P q y (by omega) (by omega) dk[y]! dk[q]!
          have n3a : (enc dk[q]!).length = k := R.hk _
          have n3b : (enc dk[y]!).length = k := R.hk _
          generalize enc dk[q]! = cI3 at S2 l3a s3b n3a
          generalize enc dk[y]! = cJ3 at S2 l3b s3a s3b n3b
          clear S3
          go_wp2_with fail
          go_big_region_o
          clear l3a l3b s3a s3b
          generalize (wr.drew.setCells blk (off + q * k) cJ3).setCells blk (off + y * k) cI3 = w2 at S2 ⊢
          go_wp2
          go_roundg (ip - y)
          case measure => omega
          case rel =>
            have e := HYQ.out
            refine ⟨y, swp dk q y, rfl, by omega, hyb, Nat.le_refl _, by rw [size_swp]; exact hds, S2, ?_, ?_⟩
            · exact permIn_trans _ _ _ _ _ HP.out (swp_permIn _ _ _ _ _ haq (by omega) (by omega) (by omega) (by omega))
            · have h1 := rot_up HR.out (by omega)
              rw [show a + (q - a) = q by omega, ← e, show q - a + 1 = y - a by omega] at h1
              exact h1
        · have hqz : ¬ (q : Int) < (ip : Int) := by omega
          go_wp2
          (try simp only [Exit.inBlock, Exit.then]); refine bodyPost_ret (results_none rfl _ _ _) rfl ?_
          refine ⟨rfl, dk, HP.out, ?_, S3.out⟩
          have e := HM.out
          refine lay_up hO (i := i) (by omega) hjb HB.out ?_ (HX.out.imp_left (by intro h; omega)) HY.out
          rw [show i - 1 - a = q - a by omega]
          exact HR.out
end Go.Proofs.Qxb6614456a
