/-
  THE WALK of slices.stableCmpFunc at elements of k cells: it answers a sorted permutation.
-/
import Derived.Test.Qxb6614456aSym
namespace Go.Proofs.Qxb6614456a
open Go Go.Shelf Go.RowKit Go.Lib Go.Sort
variable {P : Program} {α : Type} [Inhabited α] {lt : α → α → Bool}

/-- Every run of bs elements is sorted (the runs lie at the multiples of bs; the last may be short). -/
def Runs (lt : α → α → Bool) (bs n : Nat) (d : Array α) : Prop := ∀ s, bs ∣ s → SortedIn lt s (min (s + bs) n) d

/-- The runs of bs from a on, the runs of 2 bs ahead of a. -/
def Half (lt : α → α → Bool) (bs n a : Nat) (d : Array α) : Prop := 2 * bs ∣ a ∧ (∀ s, 2 * bs ∣ s → s < a → SortedIn lt s (s + 2 * bs) d) ∧ ∀ s, bs ∣ s → a ≤ s → SortedIn lt s (min (s + bs) n) d

theorem dvd_gap {x a s : Nat} (ha : x ∣ a) (hs : x ∣ s) (h : s < a) : s + x ≤ a := by
  have h1 : x ∣ a - s := Nat.dvd_sub ha hs
  have h2 := Nat.le_of_dvd (by omega) h1
  omega

theorem Half.start {bs n : Nat} {d : Array α} (h : Runs lt bs n d) : Half lt bs n 0 d := ⟨Nat.dvd_zero _, fun s _ hs => by omega, fun s hs _ => h s hs⟩

theorem Half.two {bs n a : Nat} {d : Array α} (h : Half lt bs n a d) (hb : a + 2 * bs ≤ n) : SortedIn lt a (a + bs) d ∧ SortedIn lt (a + bs) (a + 2 * bs) d := by
  have d1 : bs ∣ a := Nat.dvd_trans ⟨2, by omega⟩ h.1
  have h1 := h.2.2 a d1 (Nat.le_refl _)
  have h2 := h.2.2 (a + bs) (Nat.dvd_add d1 (Nat.dvd_refl _)) (by omega)
  rw [Nat.min_eq_left (by omega)] at h1 h2
  refine ⟨h1, ?_⟩
  rw [show a + 2 * bs = a + bs + bs by omega]
  exact h2

theorem Half.step {bs n a : Nat} {d d' : Array α} (h : Half lt bs n a d) (hp : PermIn a (a + 2 * bs) d d') (hs : SortedIn lt a (a + 2 * bs) d') : Half lt bs n (a + 2 * bs) d' := by
  refine ⟨Nat.dvd_add h.1 (Nat.dvd_refl _), fun s d1 hlt => ?_, fun s d1 hge => ?_⟩
  · by_cases c : s < a
    · have := dvd_gap h.1 d1 c
      exact sorted_same (h.2.1 s d1 c) (fun i i1 i2 => hp.2.1 i (.inl (by omega)))
    · have : s = a := by
        rcases Nat.lt_or_ge a s with c2 | c2
        · have := dvd_gap d1 h.1 c2
          omega
        · omega
      subst this
      exact hs
  · exact sorted_same (h.2.2 s d1 (by omega)) (fun i i1 i2 => hp.2.1 i (.inr (by omega)))

theorem Half.tail {bs n a : Nat} {d : Array α} (h : Half lt bs n a d) (hn : n < a + 2 * bs) (hm : a + bs < n) : SortedIn lt a (a + bs) d ∧ SortedIn lt (a + bs) n d := by
  have d1 : bs ∣ a := Nat.dvd_trans ⟨2, by omega⟩ h.1
  have h1 := h.2.2 a d1 (Nat.le_refl _)
  have h2 := h.2.2 (a + bs) (Nat.dvd_add d1 (Nat.dvd_refl _)) (by omega)
  rw [Nat.min_eq_left (by omega)] at h1
  rw [Nat.min_eq_right (by omega)] at h2
  exact ⟨h1, h2⟩

theorem Half.one {bs n a : Nat} {d : Array α} (h : Half lt bs n a d) (hm : n ≤ a + bs) : SortedIn lt a n d := by
  have d1 : bs ∣ a := Nat.dvd_trans ⟨2, by omega⟩ h.1
  have h1 := h.2.2 a d1 (Nat.le_refl _)
  rwa [Nat.min_eq_right hm] at h1

theorem Half.last {bs n a : Nat} {d d' : Array α} (h : Half lt bs n a d) (hn : n < a + 2 * bs) (hp : PermIn a n d d') (hs : SortedIn lt a n d') : Runs lt (2 * bs) n d' := by
  intro s d1
  by_cases c : s < a
  · have := dvd_gap h.1 d1 c
    refine sorted_same (d := d) ?_ (fun i i1 i2 => hp.2.1 i (.inl (by omega)))
    have h1 := h.2.1 s d1 c
    intro i j i1 ij j2
    exact h1 i j i1 ij (by omega)
  · by_cases c2 : s = a
    · subst c2
      rw [Nat.min_eq_right (by omega)]
      exact hs
    · have := dvd_gap d1 h.1 (show a < s by omega)
      intro i j i1 ij j2
      omega

/-- The first round: runs of twenty ahead of a. -/
def Twenty (lt : α → α → Bool) (a : Nat) (d : Array α) : Prop := 20 ∣ a ∧ ∀ s, 20 ∣ s → s < a → SortedIn lt s (s + 20) d

theorem Twenty.step {a : Nat} {d d' : Array α} (h : Twenty lt a d) (hp : PermIn a (a + 20) d d') (hs : SortedIn lt a (a + 20) d') : Twenty lt (a + 20) d' := by
  refine ⟨Nat.dvd_add h.1 (Nat.dvd_refl _), fun s d1 hlt => ?_⟩
  by_cases c : s < a
  · have := dvd_gap h.1 d1 c
    exact sorted_same (h.2 s d1 c) (fun i i1 i2 => hp.2.1 i (.inl (by omega)))
  · have : s = a := by have := h.1; omega
    subst this
    exact hs

theorem Twenty.last {a n : Nat} {d d' : Array α} (h : Twenty lt a d) (hn : n < a + 20) (hp : PermIn a n d d') (hs : SortedIn lt a n d') : Runs lt 20 n d' := by
  intro s d1
  by_cases c : s < a
  · have := dvd_gap h.1 d1 c
    refine sorted_same (d := d) ?_ (fun i i1 i2 => hp.2.1 i (.inl (by omega)))
    have h1 := h.2 s d1 c
    intro i j i1 ij j2
    exact h1 i j i1 ij (by omega)
  · by_cases c2 : s = a
    · subst c2
      rw [Nat.min_eq_right (by omega)]
      exact hs
    · have := dvd_gap d1 h.1 (show a < s by omega)
      intro i j i1 ij j2
      omega

set_option maxHeartbeats 4000000 in
set_option maxRecDepth 1000000 in
theorem stable_any {k : Nat} (L : Lz P k) (enc : α → List Value) (fv : Value) (blk off cap n : Nat) (d : Array α) (w0 w : World) (hn : d.size = n) (hsz : n < 1073741824) (S : SWK enc k w0 blk off d w)
    (INS : Aside (∀ (a b : Nat) (dk : Array α) (W : World), a ≤ b → b ≤ n → dk.size = n → SWK enc k w0 blk off dk W → Calls P 40 #[.slice (some ⟨blk, off, none⟩) n cap, .int .i64 a, .int .i64 b, fv] W fun e w' => e = .returned (.tuple #[]) ∧ ∃ d', PermIn a b dk d' ∧ SortedIn lt a b d' ∧ SWK enc k w0 blk off d' w'))
    (SYM : Aside (∀ (a m b : Nat) (dk : Array α) (W : World), a < m → m < b → b ≤ n → dk.size = n → SWK enc k w0 blk off dk W → SortedIn lt a m dk → SortedIn lt m b dk → Calls P 41 #[.slice (some ⟨blk, off, none⟩) n cap, .int .i64 a, .int .i64 m, .int .i64 b, fv] W fun e w' => e = .returned (.tuple #[]) ∧ ∃ d', PermIn a b dk d' ∧ SortedIn lt a b d' ∧ SWK enc k w0 blk off d' w')) :
    Calls P 39 #[.slice (some ⟨blk, off, none⟩) n cap, .int .i64 n, fv] w fun e w' => e = .returned (.tuple #[]) ∧ ∃ d', PermIn 0 n d d' ∧ SortedIn lt 0 n d' ∧ SWK enc k w0 blk off d' w' := by
  have mixed := L.mixed; have t0 := L.t0; have a0 := L.a0; have z0 := L.z0; have v0 := L.v0; have t3 := L.t3; have a3 := L.a3; have z3 := L.z3; have v3 := L.v3; have t4 := L.t4; have a4 := L.a4; have z4 := L.z4; have v4 := L.v4; have t61 := L.t61; have a61 := L.a61; have z61 := L.z61; have v61 := L.v61; have t120 := L.t120; have a120 := L.a120; have z120 := L.z120; have v120 := L.v120; have aE := L.aE; have zE := L.zE
  have e40 := L.e40
  have e41 := L.e41
  have FG := L.f39
  have S0 : Aside (SWK enc k w0 blk off d w) := S
  have Hn : Hid (d.size = n) := hn
  clear S L hn
  go_enter FG, Try.ntmps39
  go_wp2
  go_loopg [7, 8] n (fun kx s7 s8 wr => ∃ (a b : Nat) (dk : Array α), s7 = .int .i64 a ∧ s8 = .int .i64 b ∧ a + 20 ≤ b ∧ b ≤ a + 20 ∧ a ≤ n ∧ n - a ≤ kx ∧ Hid (dk.size = n) ∧ Aside (SWK enc k w0 blk off dk wr) ∧ Hid (PermIn 0 n d dk) ∧ Hid (Twenty lt a dk))
  case atStart => exact ⟨0, 20, d, rfl, rfl, by omega, by omega, by omega, by omega, Hn, S0, permIn_refl _ _ _, ⟨Nat.dvd_zero _, fun s _ h => by omega⟩⟩
  case round =>
    clear S0
    obtain ⟨a, b, dk, rfl, rfl, hab, hba, han, hkx, Hdk, S1, HP, HT⟩ := hrel
    by_cases hle : b ≤ n
    · have hlez : (b : Int) ≤ (n : Int) := by omega
      go_wp2_with fail
      refine (INS.out a b dk wr (by omega) hle Hdk.out S1.out).mono ?_
      rintro e w' ⟨rfl, d1, hp1, hs1, S2⟩
      go_wp2
      go_roundg (n - b)
      case measure => omega
      case rel =>
        obtain rfl : b = a + 20 := by omega
        exact ⟨a + 20, a + 20 + 20, d1, by go_num, by go_num, by omega, by omega, hle, Nat.le_refl _, hp1.1.trans Hdk.out, S2, permIn_trans _ _ _ _ _ HP.out (permIn_mono _ _ _ _ _ _ (Nat.zero_le _) hle (by have := Hdk.out; omega) hp1), HT.out.step hp1 hs1⟩
    · have hlez : ¬ (b : Int) ≤ (n : Int) := by omega
      go_wp2_with fail
      refine (INS.out a n dk wr han (Nat.le_refl _) Hdk.out S1.out).mono ?_
      rintro e w' ⟨rfl, d1, hp1, hs1, S2⟩
      have HR1 : Hid (Runs lt 20 n d1) := HT.out.last (by omega) hp1 hs1
      have HP1 : Hid (PermIn 0 n d d1) := permIn_trans _ _ _ _ _ HP.out (permIn_mono _ _ _ _ _ _ (Nat.zero_le _) (Nat.le_refl _) (by have := Hdk.out; omega) hp1)
      have HZ1 : Hid (d1.size = n) := hp1.1.trans Hdk.out
      have S3 : Aside (SWK enc k w0 blk off d1 w') := S2
      clear S1 S2 HT HP hp1 hs1 Hdk
      go_wp2
      go_loopg [6] n (fun kx s6 wr => ∃ (bs : Nat) (dk : Array α), s6 = .int .i64 bs ∧ 20 ≤ bs ∧ bs ≤ 2 * n + 20 ∧ n - bs ≤ kx ∧ Hid (dk.size = n) ∧ Aside (SWK enc k w0 blk off dk wr) ∧ Hid (PermIn 0 n d dk) ∧ Hid (Runs lt bs n dk))
      case atStart => exact ⟨20, d1, rfl, by omega, by omega, by omega, HZ1, S3, HP1, HR1⟩
      case round =>
        clear S3 HZ1 HP1 HR1
        obtain ⟨bs, d2, rfl, hbs1, hbs2, hkx2, HZ2, S4, HP2, HR2⟩ := hrel
        by_cases hbn : bs < n
        · have hbnz : (bs : Int) < (n : Int) := by omega
          have HF : Hid (Half lt bs n 0 d2) := Half.start HR2.out
          clear HR2
          go_wp2
          go_loopg [7, 8] n (fun ky s7 s8 wr => ∃ (a b : Nat) (dk : Array α), s7 = .int .i64 a ∧ s8 = .int .i64 b ∧ a + 2 * bs ≤ b ∧ b ≤ a + 2 * bs ∧ a ≤ n ∧ n - a ≤ ky ∧ Hid (dk.size = n) ∧ Aside (SWK enc k w0 blk off dk wr) ∧ Hid (PermIn 0 n d dk) ∧ Hid (Half lt bs n a dk))
          case atStart => exact ⟨0, 2 * bs, d2, by go_num, by go_num, by omega, by omega, by omega, by omega, HZ2, S4, HP2, HF⟩
          case round =>
            clear S4 HZ2 HP2 HF
            obtain ⟨a, b, dk, rfl, rfl, hab, hba, han, hky, Hdk, S5, HP, HT⟩ := hrel
            obtain ⟨m, hm⟩ : ∃ m, m = a + bs := ⟨_, rfl⟩
            have hmz : (a : Int) + (bs : Int) = (m : Int) := by omega
            have HM : Hid (m = a + bs) := hm
            have HBB : Hid (b = a + 2 * bs) := by unfold Hid; omega
            have hm1 : a < m := by omega
            have hm2 : m < b := by omega
            clear hm
            by_cases hle : b ≤ n
            · have hlez : (b : Int) ≤ (n : Int) := by omega
              have h2 := HT.out.two (by omega)
              rw [← HM.out, ← HBB.out] at h2
              have call := SYM.out a m b dk wr hm1 hm2 hle Hdk.out S5.out h2.1 h2.2
              clear h2
              go_wp2_with fail
              refine call.mono ?_
              rintro e w' ⟨rfl, d3, hp3, hs3, S6⟩
              clear call
              go_wp2
              go_roundg (n - b)
              case measure => omega
              case rel =>
                have e := HBB.out
                rw [e] at hp3 hs3
                exact ⟨b, b + 2 * bs, d3, rfl, (by congr 1), by omega, by omega, hle, Nat.le_refl _, hp3.1.trans Hdk.out, S6, permIn_trans _ _ _ _ _ HP.out (permIn_mono _ _ _ _ _ _ (Nat.zero_le _) (by omega) (by have := Hdk.out; omega) hp3), by rw [e]; exact HT.out.step hp3 hs3⟩
            · have hlez : ¬ (b : Int) ≤ (n : Int) := by omega
              by_cases hmn : m < n
              · have hmnz : (m : Int) < (n : Int) := by omega
                have h2 := HT.out.tail (by omega) (by have := HM.out; omega)
                rw [← HM.out] at h2
                have call := SYM.out a m n dk wr hm1 hmn (Nat.le_refl _) Hdk.out S5.out h2.1 h2.2
                clear h2
                go_wp2_with fail
                refine call.mono ?_
                rintro e w' ⟨rfl, d3, hp3, hs3, S6⟩
                clear call
                go_wp2
                go_roundg (n - 2 * bs)
                case measure => omega
                case rel => exact ⟨2 * bs, d3, by congr 1; omega, by omega, by omega, Nat.le_refl _, hp3.1.trans Hdk.out, S6, permIn_trans _ _ _ _ _ HP.out (permIn_mono _ _ _ _ _ _ (Nat.zero_le _) (Nat.le_refl _) (by have := Hdk.out; omega) hp3), HT.out.last (by omega) hp3 hs3⟩
              · have hmnz : ¬ (m : Int) < (n : Int) := by omega
                go_wp2
                go_roundg (n - 2 * bs)
                case measure => omega
                case rel => exact ⟨2 * bs, dk, by congr 1; omega, by omega, by omega, Nat.le_refl _, Hdk, S5, HP, HT.out.last (by omega) (permIn_refl _ _ _) (HT.out.one (by have := HM.out; omega))⟩
        · have hbnz : ¬ (bs : Int) < (n : Int) := by omega
          go_wp2
          go_end0
          refine ⟨rfl, d2, HP2.out, ?_, S4.out⟩
          have h := HR2.out 0 (Nat.dvd_zero _)
          rwa [Nat.min_eq_right (by omega)] at h
end Go.Proofs.Qxb6614456a
