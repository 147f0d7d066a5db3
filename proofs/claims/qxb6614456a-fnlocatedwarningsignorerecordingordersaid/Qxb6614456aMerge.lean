/-
  THE PLAIN MATHEMATICS of Go's stable sort: exchanged ranges, rotations, the symmetric merge. No Go in sight.
-/
import Derived.Sort.LotA
namespace Go.Proofs.Qxb6614456a
open Go.Sort
variable {α : Type} [Inhabited α]

/-- 'for i := 0; i < n; i++ { swap a+i, b+i }'. -/
def swapR (d : Array α) (a b : Nat) : Nat → Array α
  | 0 => d
  | n + 1 => swp (swapR d a b n) (a + n) (b + n)

theorem size_swapR (d : Array α) (a b n : Nat) : (swapR d a b n).size = d.size := by
  induction n with
  | zero => rfl
  | succ n ih => rw [swapR, swp_size, ih]

theorem swapR_get (d : Array α) (a b : Nat) : ∀ n, a + n ≤ b → b + n ≤ d.size → ∀ x, (swapR d a b n)[x]! = if a ≤ x ∧ x < a + n then d[x - a + b]! else if b ≤ x ∧ x < b + n then d[x - b + a]! else d[x]! := by
  intro n
  induction n with
  | zero =>
    intro _ _ x
    rw [if_neg (by omega), if_neg (by omega)]; rfl
  | succ n ih =>
    intro h1 h2 x
    have e := ih (by omega) (by omega)
    rw [swapR, swp_get _ (by rw [size_swapR]; omega) (by rw [size_swapR]; omega), e x, e (a + n), e (b + n)]
    by_cases c1 : x = b + n
    · subst c1
      rw [if_pos rfl, if_neg (by omega), if_neg (by omega), if_neg (by omega), if_pos (by omega)]
      congr 1; omega
    · rw [if_neg c1]
      by_cases c2 : x = a + n
      · subst c2
        rw [if_pos rfl, if_neg (by omega), if_neg (by omega), if_pos (by omega)]
        congr 1; omega
      · rw [if_neg c2]
        by_cases c3 : a ≤ x ∧ x < a + n
        · rw [if_pos c3, if_pos (by omega)]
        · rw [if_neg c3]
          by_cases c4 : b ≤ x ∧ x < b + n
          · rw [if_pos c4, if_neg (by omega), if_pos (by omega)]
          · rw [if_neg c4, if_neg (by omega), if_neg (by omega)]

theorem swapR_perm (d : Array α) (a b lo hi : Nat) : ∀ n, lo ≤ a → lo ≤ b → a + n ≤ hi → b + n ≤ hi → hi ≤ d.size → PermIn lo hi d (swapR d a b n) := by
  intro n
  induction n with
  | zero => intro _ _ _ _ _; exact permIn_refl _ _ _
  | succ n ih =>
    intro h1 h2 h3 h4 h5
    refine permIn_trans _ _ _ _ _ (ih h1 h2 (by omega) (by omega) h5) ?_
    exact swp_permIn _ _ _ _ _ (by omega) (by omega) (by omega) (by omega) (by rw [size_swapR]; exact h5)

/-- d' is d with the i elements from s on and the j behind them exchanged as wholes. -/
def Rot (d d' : Array α) (s i j : Nat) : Prop := d'.size = d.size ∧ ∀ x, d'[x]! = if s ≤ x ∧ x < s + j then d[x + i]! else if s + j ≤ x ∧ x < s + i + j then d[x - j]! else d[x]!

theorem Rot.lo {d d' : Array α} {s i j : Nat} (h : Rot d d' s i j) {x : Nat} (h1 : s ≤ x) (h2 : x < s + j) : d'[x]! = d[x + i]! := by rw [h.2 x, if_pos ⟨h1, h2⟩]
theorem Rot.hi {d d' : Array α} {s i j : Nat} (h : Rot d d' s i j) {x : Nat} (h1 : s + j ≤ x) (h2 : x < s + i + j) : d'[x]! = d[x - j]! := by rw [h.2 x, if_neg (by omega), if_pos ⟨h1, h2⟩]
theorem Rot.out {d d' : Array α} {s i j : Nat} (h : Rot d d' s i j) {x : Nat} (h1 : x < s ∨ s + i + j ≤ x) : d'[x]! = d[x]! := by rw [h.2 x, if_neg (by omega), if_neg (by omega)]

theorem rot_left {d d' : Array α} {s i j : Nat} (hij : j < i) (hz : s + i + j ≤ d.size) (h : Rot (swapR d s (s + i) j) d' (s + j) (i - j) j) : Rot d d' s i j := by
  have e := swapR_get d s (s + i) j (by omega) (by omega)
  refine ⟨by rw [h.1, size_swapR], fun x => ?_⟩
  by_cases c1 : x < s
  · rw [h.out (by omega), e, if_neg (by omega), if_neg (by omega), if_neg (by omega), if_neg (by omega)]
  by_cases c2 : x < s + j
  · rw [h.out (by omega), e, if_pos (by omega), if_pos (by omega)]; congr 1; omega
  by_cases c3 : x < s + j + j
  · rw [h.lo (by omega) (by omega), e, if_neg (by omega), if_pos (by omega), if_neg (by omega), if_pos (by omega)]; congr 1; omega
  by_cases c4 : x < s + i + j
  · rw [h.hi (by omega) (by omega), e, if_neg (by omega), if_neg (by omega), if_neg (by omega), if_pos (by omega)]
  · rw [h.out (by omega), e, if_neg (by omega), if_neg (by omega), if_neg (by omega), if_neg (by omega)]

theorem rot_right {d d' : Array α} {s i j : Nat} (hij : i < j) (hz : s + i + j ≤ d.size) (h : Rot (swapR d s (s + j) i) d' s i (j - i)) : Rot d d' s i j := by
  have e := swapR_get d s (s + j) i (by omega) (by omega)
  refine ⟨by rw [h.1, size_swapR], fun x => ?_⟩
  by_cases c1 : x < s
  · rw [h.out (by omega), e, if_neg (by omega), if_neg (by omega), if_neg (by omega), if_neg (by omega)]
  by_cases c2 : x < s + (j - i)
  · rw [h.lo (by omega) (by omega), e, if_neg (by omega), if_neg (by omega), if_pos (by omega)]
  by_cases c3 : x < s + j
  · rw [h.hi (by omega) (by omega), e, if_pos (by omega), if_pos (by omega)]; congr 1; omega
  by_cases c4 : x < s + i + j
  · rw [h.out (by omega), e, if_neg (by omega), if_pos (by omega), if_neg (by omega), if_pos (by omega)]; congr 1; omega
  · rw [h.out (by omega), e, if_neg (by omega), if_neg (by omega), if_neg (by omega), if_neg (by omega)]

theorem rot_even {d : Array α} {s i : Nat} (hz : s + i + i ≤ d.size) : Rot d (swapR d s (s + i) i) s i i := by
  have e := swapR_get d s (s + i) i (by omega) (by omega)
  refine ⟨size_swapR _ _ _ _, fun x => ?_⟩
  rw [e]
  by_cases c1 : s ≤ x ∧ x < s + i
  · rw [if_pos c1, if_pos c1]; congr 1; omega
  · rw [if_neg c1, if_neg c1]
    by_cases c2 : s + i ≤ x ∧ x < s + i + i
    · rw [if_pos c2, if_pos c2]; congr 1; omega
    · rw [if_neg c2, if_neg c2]

theorem rot_none_l (d : Array α) (s j : Nat) : Rot d d s 0 j := ⟨rfl, fun x => by
  by_cases c1 : s ≤ x ∧ x < s + j
  · rw [if_pos c1]; rfl
  · rw [if_neg c1, if_neg (by omega)]⟩
theorem rot_none_r (d : Array α) (s i : Nat) : Rot d d s i 0 := ⟨rfl, fun x => by
  rw [if_neg (by omega)]
  by_cases c1 : s + 0 ≤ x ∧ x < s + i + 0
  · rw [if_pos c1]; rfl
  · rw [if_neg c1]⟩

/-- One element moved up by one place more. -/
theorem rot_up {d dk : Array α} {a n : Nat} (h : Rot d dk a 1 n) (hz : a + n + 1 < d.size) : Rot d (swp dk (a + n) (a + n + 1)) a 1 (n + 1) := by
  have hs := h.1
  refine ⟨by rw [swp_size, hs], fun x => ?_⟩
  rw [swp_get _ (by omega) (by omega)]
  by_cases c1 : x = a + n + 1
  · subst c1
    rw [if_pos rfl, h.hi (by omega) (by omega), if_neg (by omega), if_pos (by omega)]; congr 1; omega
  · rw [if_neg c1]
    by_cases c2 : x = a + n
    · subst c2
      rw [if_pos rfl, h.out (by omega), if_pos (by omega)]
    · rw [if_neg c2]
      by_cases c3 : a ≤ x ∧ x < a + n
      · rw [h.lo c3.1 c3.2, if_pos (by omega)]
      · rw [h.out (by omega), if_neg (by omega), if_neg (by omega)]

/-- One element moved down by one place more. -/
theorem rot_down {d dk : Array α} {q n : Nat} (h : Rot d dk (q + 1) n 1) (hz : q + 1 + n < d.size) : Rot d (swp dk (q + 1) q) q (n + 1) 1 := by
  have hs := h.1
  refine ⟨by rw [swp_size, hs], fun x => ?_⟩
  rw [swp_get _ (by omega) (by omega)]
  by_cases c1 : x = q
  · subst c1
    rw [if_pos rfl, h.lo (by omega) (by omega), if_pos (by omega)]; congr 1; omega
  · rw [if_neg c1]
    by_cases c2 : x = q + 1
    · subst c2
      rw [if_pos rfl, h.out (by omega), if_neg (by omega), if_pos (by omega)]; congr 1
    · rw [if_neg c2]
      by_cases c3 : q + 2 ≤ x ∧ x < q + 1 + n + 1
      · rw [h.hi (by omega) (by omega), if_neg (by omega), if_pos (by omega)]
      · rw [h.out (by omega), if_neg (by omega), if_neg (by omega)]

variable {lt : α → α → Bool}

theorem sorted_le (hS : SWO lt) {a b : Nat} {d : Array α} (h : SortedIn lt a b d) {i j : Nat} (h1 : a ≤ i) (h2 : i ≤ j) (h3 : j < b) : lt d[j]! d[i]! = false := by
  rcases Nat.lt_or_eq_of_le h2 with h4 | rfl
  · exact h i j h1 h4 h3
  · exact hS.irrefl _

/-- THE MERGE's HEART: behind the rotation nothing of the right half is less than anything of the left. -/
theorem cross {a m b mid s e : Nat} {d d1 : Array α} (hS : SWO lt) (hse : s + e = mid + m) (h1 : a ≤ s) (h2 : s ≤ m) (h3 : m ≤ e) (h4 : e ≤ b) (hA : SortedIn lt a m d) (hB : SortedIn lt m b d) (hR : Rot d d1 s (m - s) (e - m))
    (hx : s = a ∨ e = b ∨ lt d[e]! d[s - 1]! = false) (hy : s = m ∨ e = m ∨ lt d[e - 1]! d[s]! = true) : ∀ i j, a ≤ i → i < mid → mid ≤ j → j < b → lt d1[j]! d1[i]! = false := by
  intro i j i1 i2 j1 j2
  by_cases ci : i < s
  · rw [hR.out (x := i) (by omega)]
    by_cases cj : j < e
    · rw [hR.hi (x := j) (by omega) (by omega)]
      exact sorted_le hS hA i1 (by omega) (by omega)
    · rw [hR.out (x := j) (by omega)]
      rcases hx with hx | hx | hx
      · omega
      · omega
      · exact hS.ntrans _ _ _ (sorted_le hS hB (by omega) (show e ≤ j by omega) j2) (hS.ntrans _ _ _ hx (sorted_le hS hA i1 (show i ≤ s - 1 by omega) (by omega)))
  · rw [hR.lo (x := i) (by omega) (by omega)]
    by_cases cj : j < e
    · rw [hR.hi (x := j) (by omega) (by omega)]
      rcases hy with hy | hy | hy
      · omega
      · omega
      · have hy' := hS.asymmA hy
        exact hS.ntrans _ _ _ (sorted_le hS hA (by omega) (show s ≤ j - (e - m) by omega) (by omega)) (hS.ntrans _ _ _ hy' (sorted_le hS hB (by omega) (show i + (m - s) ≤ e - 1 by omega) (by omega)))
    · rw [hR.out (x := j) (by omega)]
      exact sorted_le hS hB (by omega) (by omega) j2

theorem halves {a b mid : Nat} {d1 d2 d3 : Array α} (hab : a ≤ mid) (hmb : mid ≤ b) (hz : b ≤ d1.size) (hc : ∀ i j, a ≤ i → i < mid → mid ≤ j → j < b → lt d1[j]! d1[i]! = false)
    (p1 : PermIn a mid d1 d2) (s1 : SortedIn lt a mid d2) (p2 : PermIn mid b d2 d3) (s2 : SortedIn lt mid b d3) : PermIn a b d1 d3 ∧ SortedIn lt a b d3 := by
  have z2 : d2.size = d1.size := p1.1
  have c2 : ∀ i j, a ≤ i → i < mid → mid ≤ j → j < b → lt d2[j]! d2[i]! = false := fun i j i1 i2 j1 j2 => by
    rw [p1.2.1 j (.inr j1)]
    exact permIn_all d1 d2 a mid (fun x => lt d1[j]! x = false) (by omega) p1 (fun q q1 q2 => hc q j q1 q2 j1 j2) i i1 i2
  have c3 : ∀ i j, a ≤ i → i < mid → mid ≤ j → j < b → lt d3[j]! d3[i]! = false := fun i j i1 i2 j1 j2 => by
    rw [p2.2.1 i (.inl i2)]
    exact permIn_all d2 d3 mid b (fun y => lt y d2[i]! = false) (by omega) p2 (fun q q1 q2 => c2 i q i1 i2 q1 q2) j j1 j2
  refine ⟨permIn_trans _ _ _ _ _ (permIn_mono _ _ _ _ _ _ (Nat.le_refl _) hmb hz p1) (permIn_mono _ _ _ _ _ _ hab (Nat.le_refl _) (by omega) p2), ?_⟩
  intro i j i1 ij j2
  by_cases ci : j < mid
  · rw [p2.2.1 i (.inl (by omega)), p2.2.1 j (.inl ci)]
    exact s1 i j i1 ij ci
  · by_cases cj : i < mid
    · exact c3 i j i1 cj (by omega) j2
    · exact s2 i j (by omega) ij j2

/-- One element ahead of a sorted run, laid in. -/
theorem lay_up {a b i : Nat} {d d' : Array α} (hS : SWO lt) (h1 : a + 1 ≤ i) (h2 : i ≤ b) (hB : SortedIn lt (a + 1) b d) (hR : Rot d d' a 1 (i - 1 - a)) (hx : i = a + 1 ∨ lt d[i - 1]! d[a]! = true) (hy : i = b ∨ lt d[i]! d[a]! = false) : SortedIn lt a b d' := by
  have low : ∀ x, a + 1 ≤ x → x < i → lt d[a]! d[x]! = false := fun x x1 x2 => by
    rcases hx with hx | hx
    · omega
    · exact hS.ntrans _ _ _ (hS.asymmA hx) (sorted_le hS hB x1 (show x ≤ i - 1 by omega) (by omega))
  have high : ∀ x, i ≤ x → x < b → lt d[x]! d[a]! = false := fun x x1 x2 => by
    rcases hy with hy | hy
    · omega
    · exact hS.ntrans _ _ _ (sorted_le hS hB h1 x1 x2) hy
  intro x y x1 xy y2
  by_cases cy : y < i - 1
  · rw [hR.lo (x := x) x1 (by omega), hR.lo (x := y) (by omega) (by omega)]
    exact hB _ _ (by omega) (by omega) (by omega)
  · by_cases cy2 : y = i - 1
    · subst cy2
      rw [hR.lo (x := x) x1 (by omega), hR.hi (x := i - 1) (by omega) (by omega), show i - 1 - (i - 1 - a) = a by omega]
      exact low _ (by omega) (by omega)
    · rw [hR.out (x := y) (by omega)]
      by_cases cx : x < i - 1
      · rw [hR.lo (x := x) x1 (by omega)]
        exact hB _ _ (by omega) (by omega) y2
      · by_cases cx2 : x = i - 1
        · subst cx2
          rw [hR.hi (x := i - 1) (by omega) (by omega), show i - 1 - (i - 1 - a) = a by omega]
          exact high y (by omega) y2
        · rw [hR.out (x := x) (by omega)]
          exact hB _ _ (by omega) xy y2

/-- One element behind a sorted run, laid in. -/
theorem lay_down {a m i : Nat} {d d' : Array α} (hS : SWO lt) (h1 : a ≤ i) (h2 : i ≤ m) (hA : SortedIn lt a m d) (hR : Rot d d' i (m - i) 1) (hx : i = a ∨ lt d[m]! d[i - 1]! = false) (hy : i = m ∨ lt d[m]! d[i]! = true) : SortedIn lt a (m + 1) d' := by
  have low : ∀ x, a ≤ x → x < i → lt d[m]! d[x]! = false := fun x x1 x2 => by
    rcases hx with hx | hx
    · omega
    · exact hS.ntrans _ _ _ hx (sorted_le hS hA x1 (show x ≤ i - 1 by omega) (by omega))
  have high : ∀ x, i ≤ x → x < m → lt d[x]! d[m]! = false := fun x x1 x2 => by
    rcases hy with hy | hy
    · omega
    · exact hS.ntrans _ _ _ (sorted_le hS hA h1 x1 x2) (hS.asymmA hy)
  intro x y x1 xy y2
  by_cases cy : y < i
  · rw [hR.out (x := x) (by omega), hR.out (x := y) (by omega)]
    exact hA _ _ x1 xy (by omega)
  · by_cases cy2 : y = i
    · subst cy2
      rw [hR.out (x := x) (by omega), hR.lo (x := y) (by omega) (by omega), show y + (m - y) = m by omega]
      exact low x x1 xy
    · rw [hR.hi (x := y) (by omega) (by omega)]
      by_cases cx : x < i
      · rw [hR.out (x := x) (by omega)]
        exact hA _ _ x1 (by omega) (by omega)
      · by_cases cx2 : x = i
        · subst cx2
          rw [hR.lo (x := x) (by omega) (by omega), show x + (m - x) = m by omega]
          exact high _ (by omega) (by omega)
        · rw [hR.hi (x := x) (by omega) (by omega)]
          exact hA _ _ (by omega) (by omega) (by omega)
end Go.Proofs.Qxb6614456a
