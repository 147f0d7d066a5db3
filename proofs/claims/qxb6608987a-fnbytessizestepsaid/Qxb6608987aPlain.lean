/-
  THE PLAIN LAW of BytesSize: how many base-128 digits a count has. No Go in sight.
-/
import Derived.Lib.BitFns
namespace Go.Proofs.Qxb6608987a

/-- The header part: how many base-128 digits. -/
def dg (n : Nat) : Nat := (Lib.bitLen (n / 2 * 2 + 1) + 6) / 7

theorem bitLen_small : ∀ n : Fin 64, 1 ≤ Lib.bitLen (n.val * 2 + 1) ∧ Lib.bitLen (n.val * 2 + 1) ≤ 7 := by decide +kernel

theorem dg_small (n : Nat) (h : n < 128) : dg n = 1 := by
  have := bitLen_small ⟨n / 2, by omega⟩
  unfold dg
  simp only at this
  omega

theorem bitLen_odd (n : Nat) (h : 1 ≤ n) (hx : n < 2 ^ 64) : Lib.bitLen (n / 2 * 2 + 1) = Lib.bitLen n := by
  rw [Lib.bitLen_half n (by omega) hx, Lib.bitLen_half (n / 2 * 2 + 1) (by omega) (by omega)]
  congr 2
  omega

theorem dg_step (n : Nat) (h : 128 ≤ n) (hx : n < 2 ^ 64) : dg n = dg (n / 128) + 1 := by
  unfold dg
  rw [Lib.bitLen_shift 7 (n / 2 * 2 + 1) (by omega) (by omega), bitLen_odd (n / 128) (by omega) (by omega)]
  have e : (n / 2 * 2 + 1) / 2 ^ 7 = n / 128 := by omega
  rw [e]
  omega

theorem bitLen_le : ∀ (f x : Nat), Lib.bitLenAux f x ≤ f
  | 0, _ => Nat.le_refl _
  | f + 1, x => by
    have := bitLen_le f (x / 2)
    unfold Lib.bitLenAux
    split <;> omega

theorem dg_bd (n : Nat) (hx : n < 2 ^ 64) : 1 ≤ dg n ∧ dg n ≤ 10 := by
  have h1 : Lib.bitLen (n / 2 * 2 + 1) ≤ 64 := bitLen_le 64 _
  have h2 := Lib.bitLen_half (n / 2 * 2 + 1) (by omega) (by omega)
  unfold dg
  omega

/-- 128 to a power of at least one. -/
def Pw (p : Nat) : Prop := ∃ k, p = 128 ^ (k + 1)

theorem pw_small (p : Nat) (h : p < 128) : ¬ Pw p := by
  rintro ⟨k, rfl⟩
  have : 1 ≤ 128 ^ k := Nat.one_le_pow _ _ (by omega)
  rw [Nat.pow_succ] at h
  omega

theorem pw_mod (p : Nat) (h : p % 128 ≠ 0) : ¬ Pw p := by
  rintro ⟨k, rfl⟩
  rw [Nat.pow_succ] at h
  omega

theorem pw_step (p : Nat) (h : p % 128 = 0) (h2 : 128 ≤ p) : Pw p ↔ (p / 128 = 1 ∨ Pw (p / 128)) := by
  constructor
  · rintro ⟨k, rfl⟩
    cases k with
    | zero => left; rfl
    | succ k => right; exact ⟨k, by rw [Nat.pow_succ 128 (k + 1)]; omega⟩
  · rintro (h1 | ⟨k, hk⟩)
    · exact ⟨0, by omega⟩
    · exact ⟨k + 1, by rw [Nat.pow_succ, ← hk]; omega⟩

theorem step_aux : ∀ (f n : Nat), n ≤ f → n + 1 < 2 ^ 64 → ((Pw (n + 1) → dg (n + 1) = dg n + 1) ∧ (¬ Pw (n + 1) → dg (n + 1) = dg n))
  | 0, n, h, _ => by
    obtain rfl : n = 0 := by omega
    exact ⟨fun h => absurd h (pw_small 1 (by omega)), fun _ => rfl⟩
  | f + 1, n, h, hx => by
    by_cases hs : n < 128
    · by_cases h7 : n = 127
      · subst h7
        exact ⟨fun _ => by rw [dg_step 128 (by omega) (by omega), dg_small 127 (by omega)]; rw [dg_small _ (by omega)], fun h => absurd ⟨0, rfl⟩ h⟩
      · exact ⟨fun h => absurd h (pw_small _ (by omega)), fun _ => by rw [dg_small _ (by omega), dg_small _ (by omega)]⟩
    · have e1 := dg_step n (by omega) (by omega)
      have e2 := dg_step (n + 1) (by omega) (by omega)
      by_cases hm : (n + 1) % 128 = 0
      · have hq : (n + 1) / 128 = n / 128 + 1 := by omega
        have ih := step_aux f (n / 128) (by omega) (by omega)
        have hp := pw_step (n + 1) hm (by omega)
        rw [hq] at hp e2
        have hne : ¬ n / 128 + 1 = 1 := by omega
        by_cases hP : Pw (n / 128 + 1)
        · exact ⟨fun _ => by rw [e1, e2, ih.1 hP], fun h => absurd (hp.2 (.inr hP)) h⟩
        · exact ⟨fun h => absurd (hp.1 h) (not_or.2 ⟨hne, hP⟩), fun _ => by rw [e1, e2, ih.2 hP]⟩
      · have hq : (n + 1) / 128 = n / 128 := by omega
        exact ⟨fun h => absurd h (pw_mod _ hm), fun _ => by rw [e1, e2, hq]⟩

theorem dg_next_pw (n : Nat) (hx : n + 1 < 2 ^ 64) (h : Pw (n + 1)) : dg (n + 1) = dg n + 1 := (step_aux n n (Nat.le_refl _) hx).1 h
theorem dg_next (n : Nat) (hx : n + 1 < 2 ^ 64) (h : ¬ Pw (n + 1)) : dg (n + 1) = dg n := (step_aux n n (Nat.le_refl _) hx).2 h
end Go.Proofs.Qxb6608987a
