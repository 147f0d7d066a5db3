/-
  THE WALK of slices.rotateCmpFunc at elements of k cells.
-/
import Derived.Test.Qxb6614456aSwapR
namespace Go.Proofs.Qxb6614456a
open Go Go.Shelf Go.RowKit Go.Lib Go.Sort
variable {P : Program} {α : Type} [Inhabited α]

set_option maxHeartbeats 4000000 in
set_option maxRecDepth 1000000 in
theorem rotate_any {k : Nat} (L : Lz P k) (enc : α → List Value) (fv : Value) (blk off cap a m b : Nat) (d0 d : Array α) (w0 w : World)
    (R : RowK enc k w0 blk off d0) (hs : d0.size = d.size) (S : SWK enc k w0 blk off d w) (ham : a < m) (hmb : m < b) (hb : b ≤ d.size) (hsz : d.size < 4611686018427387904) :
    Calls P 42 #[.slice (some ⟨blk, off, none⟩) d.size cap, .int .i64 a, .int .i64 m, .int .i64 b, fv] w fun e w' => e = .returned (.tuple #[]) ∧ ∃ d', Rot d d' a (m - a) (b - m) ∧ PermIn a b d d' ∧ SWK enc k w0 blk off d' w' := by
  have mixed := L.mixed; have t0 := L.t0; have a0 := L.a0; have z0 := L.z0; have v0 := L.v0; have t3 := L.t3; have a3 := L.a3; have z3 := L.z3; have v3 := L.v3; have t4 := L.t4; have a4 := L.a4; have z4 := L.z4; have v4 := L.v4; have t61 := L.t61; have a61 := L.a61; have z61 := L.z61; have v61 := L.v61; have t120 := L.t120; have a120 := L.a120; have z120 := L.z120; have v120 := L.v120; have aE := L.aE; have zE := L.zE
  have e43 := L.e43
  have FG := L.f42
  have S0 : Aside (SWK enc k w0 blk off d w) := S
  have call : ∀ (dk : Array α) (W : World) (s t n : Nat), dk.size = d.size → SWK enc k w0 blk off dk W → s + n ≤ t → t + n ≤ d.size →
      Calls P 43 #[.slice (some ⟨blk, off, none⟩) d.size cap, .int .i64 s, .int .i64 t, .int .i64 n, fv] W fun e w' => e = .returned (.tuple #[]) ∧ SWK enc k w0 blk off (swapR dk s t n) w' := fun dk W s t n h1 h2 h3 h4 => by
    have := swapRange_any L enc fv blk off cap s t n d0 dk w0 W R (by omega) h2 h3 (by omega) (by omega)
    rwa [h1] at this
  have CALL : Aside _ := call
  clear S L call R
  go_enter FG, Try.ntmps42
  go_wp2
  go_loopg [10, 11] (b - a) (fun kx s10 s11 wr => ∃ (i j : Nat) (dk : Array α), s10 = .int .i64 i ∧ s11 = .int .i64 j ∧ 0 < i ∧ 0 < j ∧ i ≤ m - a ∧ j ≤ b - m ∧ i + j ≤ kx ∧ dk.size = d.size ∧ Aside (SWK enc k w0 blk off dk wr) ∧ Hid (PermIn a b d dk) ∧
    Hid (∀ d', Rot dk d' (m - i) i j → Rot d d' a (m - a) (b - m)))
  case atStart =>
    refine ⟨m - a, b - m, d, by congr 1; omega, by congr 1; omega, by omega, by omega, by omega, by omega, by omega, rfl, S0, permIn_refl _ _ _, fun d' h => ?_⟩
    rwa [show m - (m - a) = a by omega] at h
  case round =>
    clear S0
    obtain ⟨i, j, dk, rfl, rfl, hi0, hj0, him, hjb, hkx, hds, S1, HP, HR⟩ := hrel
    obtain ⟨s, hs'⟩ : ∃ s, s = m - i := ⟨_, rfl⟩
    have hsi : (m : Int) - (i : Int) = (s : Int) := by omega
    have hsn : s + i = m := by omega
    have HS : Hid (s = m - i ∧ s + i = m) := ⟨hs', hsn⟩
    have has : a ≤ s := by omega
    have hsl : s < m := by omega
    clear hs' hsn
    by_cases hne : i = j
    · have HE : Hid (i = j) := hne
      have hneq : ((i : Int) == (j : Int)) = true := by simp [hne]
      have hneq2 : ((i : Int) != (j : Int)) = false := by simp [hne]
      clear hne
      go_wp2_with fail
      refine (CALL.out dk wr s m i hds S1.out (by have := HS.out.2; omega) (by have := HE.out; omega)).mono ?_
      rintro e w' ⟨rfl, S2⟩
      go_wp2
      go_end0
      refine ⟨rfl, _, HR.out _ ?_, ?_, S2⟩
      · have h1 := rot_even (d := dk) (s := s) (i := i) (by have := HE.out; have := HS.out.2; omega)
        rw [HS.out.2] at h1
        rw [← HS.out.1]
        have e := HE.out
        subst e
        exact h1
      · exact permIn_trans _ _ _ _ _ HP.out (swapR_perm dk s m a b i has (by omega) (by have := HS.out.2; omega) (by have := HE.out; omega) (by omega))
    · have HE : Hid (¬ i = j) := hne
      have hneq : ((i : Int) == (j : Int)) = false := by simp; omega
      have hneq2 : ((i : Int) != (j : Int)) = true := by simp; omega
      by_cases hgt : j < i
      · have hgtz : (j : Int) < (i : Int) := by omega
        clear hne
        go_wp2_with fail
        refine (CALL.out dk wr s m j hds S1.out (by have := HS.out.2; omega) (by omega)).mono ?_
        rintro e w' ⟨rfl, S2⟩
        have hij : (i : Int) - (j : Int) = ((i - j : Nat) : Int) := by omega
        go_wp2
        go_roundg (i + j - j)
        case measure => omega
        case rel =>
          refine ⟨i - j, j, swapR dk s m j, by congr 1, rfl, by omega, hj0, by omega, hjb, by omega, by rw [size_swapR]; exact hds, S2, ?_, fun d' h => HR.out d' ?_⟩
          · exact permIn_trans _ _ _ _ _ HP.out (swapR_perm dk s m a b j has (by omega) (by have := HS.out.2; omega) (by omega) (by omega))
          · have e1 := HS.out.1
            have e2 := HS.out.2
            rw [← e1]
            refine rot_left hgt (by omega) ?_
            rw [e2, show s + j = m - (i - j) by omega]
            exact h
      · have hgtz : ¬ (j : Int) < (i : Int) := by omega
        obtain ⟨t, ht⟩ : ∃ t, t = m + j - i := ⟨_, rfl⟩
        have hti : (m : Int) + (j : Int) - (i : Int) = (t : Int) := by omega
        have HT : Hid (t = m + j - i) := ht
        clear ht hne
        go_wp2_with fail
        refine (CALL.out dk wr s t i hds S1.out (by have := HS.out.2; have := HT.out; have := HE.out; omega) (by have := HT.out; omega)).mono ?_
        rintro e w' ⟨rfl, S2⟩
        have hij : (j : Int) - (i : Int) = ((j - i : Nat) : Int) := by omega
        go_wp2
        go_roundg (i + j - i)
        case measure => omega
        case rel =>
          have e3 := HE.out
          have e4 := HT.out
          have e2 := HS.out.2
          refine ⟨i, j - i, swapR dk s t i, rfl, by congr 1, hi0, by omega, him, by omega, by omega, by rw [size_swapR]; exact hds, S2, ?_, fun d' h => HR.out d' ?_⟩
          · exact permIn_trans _ _ _ _ _ HP.out (swapR_perm dk s t a b i has (by omega) (by omega) (by omega) (by omega))
          · have e1 := HS.out.1
            rw [← e1]
            refine rot_right (by omega) (by omega) ?_
            rw [show s + j = t by omega, e1]
            rw [e1] at h
            exact h
end Go.Proofs.Qxb6614456a
