/-
  samePlace and placeBefore; and the plain law: two sorted rows of the same warnings name the same places.
-/
import Derived.Test.Qxb6614456aSix
namespace Go.Proofs.Qxb6614456a
open Go Go.RowKit Go.Sort Go.Shelf Go.Lib

set_option maxHeartbeats 2000000 in
theorem same_any (l1 c1 : Int) (p1 : ByteArray) (j1 : Bool) (m1 : ByteArray) (l2 c2 : Int) (p2 : ByteArray) (j2 : Bool) (m2 : ByteArray) (b : Bool) (hb : b = (l1 == l2 && c1 == c2)) (W : World) :
    Calls Try.prog 15 #[.agg #[.int .i64 l1, .int .i64 c1, .string p1, .bool j1, .string m1], .agg #[.int .i64 l2, .int .i64 c2, .string p2, .bool j2, .string m2]] W fun e w' => e = .returned (.bool b) ∧ ∃ q os', w' = grow (W.drewN q) os' := by
  subst hb
  by_cases h1 : l1 = l2
  · subst h1
    by_cases h2 : c1 = c2
    · subst h2
      go_enter Try.func15, Try.ntmps15
      go_wp2
      go_ret
      exact ⟨by simp, 0, _, by rw [alloc_eq_grow, alloc_eq_grow, grow_grow]; rfl⟩
    · have h2' : (c1 == c2) = false := by simpa using h2
      go_enter Try.func15, Try.ntmps15
      go_wp2
      go_ret
      exact ⟨by simp [h2'], 0, _, by rw [alloc_eq_grow, alloc_eq_grow, grow_grow]; rfl⟩
  · have h1' : (l1 == l2) = false := by simpa using h1
    go_enter Try.func15, Try.ntmps15
    go_wp2
    go_ret
    exact ⟨by simp [h1'], 0, _, by rw [alloc_eq_grow, alloc_eq_grow, grow_grow]; rfl⟩

set_option maxHeartbeats 2000000 in
theorem before_not (l1 c1 : Int) (p1 : ByteArray) (j1 : Bool) (m1 : ByteArray) (l2 c2 : Int) (p2 : ByteArray) (j2 : Bool) (m2 : ByteArray) (hb : l2 < l1 ∨ l1 = l2 ∧ c2 ≤ c1) (W : World) :
    Calls Try.prog 16 #[.agg #[.int .i64 l1, .int .i64 c1, .string p1, .bool j1, .string m1], .agg #[.int .i64 l2, .int .i64 c2, .string p2, .bool j2, .string m2]] W fun e w' => e = .returned (.bool false) ∧ ∃ q os', w' = grow (W.drewN q) os' := by
  rcases hb with hb | ⟨rfl, hb⟩
  · have h1 : ¬ l1 < l2 := by omega
    have h2 : (l1 == l2) = false := by simp; omega
    go_enter Try.func16, Try.ntmps16
    go_wp2
    go_ret
    exact ⟨rfl, 0, _, by rw [alloc_eq_grow, alloc_eq_grow, grow_grow]; rfl⟩
  · have h1 : ¬ c1 < c2 := by omega
    have h2 : ¬ l1 < l1 := by omega
    go_enter Try.func16, Try.ntmps16
    go_wp2
    go_ret
    exact ⟨rfl, 0, _, by rw [alloc_eq_grow, alloc_eq_grow, grow_grow]; rfl⟩

/-! ### The plain law -/

theorem ln_one (bs : List UInt8) : ∀ k, 1 ≤ ln bs k
  | 0 => by simp [ln]
  | k + 1 => by have := ln_one bs k; unfold ln; split <;> omega

theorem ln_mono (bs : List UInt8) (a : Nat) : ∀ m, ln bs a ≤ ln bs (a + m) ∧ (ln bs a = ln bs (a + m) → ls bs a = ls bs (a + m))
  | 0 => ⟨Nat.le_refl _, fun _ => rfl⟩
  | m + 1 => by
    have ih := ln_mono bs a m
    have e1 : ln bs (a + (m + 1)) = if bs.getD (a + m) 0 = 10 then ln bs (a + m) + 1 else ln bs (a + m) := by rw [← Nat.add_assoc]; rfl
    have e2 : ls bs (a + (m + 1)) = if bs.getD (a + m) 0 = 10 then a + m + 1 else ls bs (a + m) := by rw [← Nat.add_assoc]; rfl
    rw [e1, e2]
    split
    · exact ⟨by omega, fun h => by omega⟩
    · exact ih

/-- A later offset's place is not before an earlier's. -/
theorem place_mono (bs : List UInt8) {a b : Nat} (h : a ≤ b) : (ln bs a : Int) < (ln bs b : Int) ∨ (ln bs b : Int) = (ln bs a : Int) ∧ (a : Int) - (ls bs a : Int) + 1 ≤ (b : Int) - (ls bs b : Int) + 1 := by
  obtain ⟨m, rfl⟩ : ∃ m, b = a + m := ⟨b - a, by omega⟩
  have h1 := ln_mono bs a m
  by_cases e : ln bs a = ln bs (a + m)
  · right
    have := h1.2 e
    omega
  · left
    omega

theorem get!_toList (x : Array Lp) (i : Nat) (hi : i < x.size) : x.toList[i]? = some x[i]! := by
  rw [getElem!_pos x i hi]; simp [hi]

/-- The offsets of a sorted row, as a list. -/
theorem offs_sorted {x : Array Lp} {n : Nat} (hn : x.size = n) (hs : SortedIn (ltOf cfL) 0 n x) : (x.toList.map fun y => y.off.val).Pairwise (· ≤ ·) := by
  rw [List.pairwise_iff_getElem]
  intro i j hi hj hij
  simp only [List.length_map, Array.length_toList] at hi hj
  have h := hs i j (Nat.zero_le _) hij (by omega)
  unfold ltOf cfL at h
  have h1 := of_decide_eq_false h
  rw [getElem!_pos x i hi, getElem!_pos x j hj] at h1
  simp only [List.getElem_map, Array.getElem_toList]
  omega

theorem offs_same {x y : Array Lp} {n : Nat} (hx : x.size = n) (hy : y.size = n) (hp : x.toList.Perm y.toList) (sx : SortedIn (ltOf cfL) 0 n x) (sy : SortedIn (ltOf cfL) 0 n y) (i : Nat) (hi : i < n) : x[i]!.off.val = y[i]!.off.val := by
  have e : (x.toList.map fun z => z.off.val) = y.toList.map fun z => z.off.val :=
    List.Perm.eq_of_pairwise (le := (· ≤ ·)) (fun a b _ _ h1 h2 => Nat.le_antisymm h1 h2) (offs_sorted hx sx) (offs_sorted hy sy) (hp.map _)
  have h := congrArg (fun l => l[i]?) e
  simp only [List.getElem?_map] at h
  rw [get!_toList x i (by omega), get!_toList y i (by omega)] at h
  simpa using h

theorem sorted_off {x : Array Lp} {n : Nat} (hs : SortedIn (ltOf cfL) 0 n x) {i j : Nat} (h : i ≤ j) (hj : j < n) : x[i]!.off.val ≤ x[j]!.off.val := by
  by_cases e : i = j
  · subst e; exact Nat.le_refl _
  · have h := hs i j (Nat.zero_le _) (by omega) hj
    unfold ltOf cfL at h
    have h1 := of_decide_eq_false h
    omega

/-- Where an offset is alone the two rows hold the same warning. -/
theorem lone_same {x y : Array Lp} {n : Nat} (hx : x.size = n) (hy : y.size = n) (hp : x.toList.Perm y.toList) (sx : SortedIn (ltOf cfL) 0 n x) (sy : SortedIn (ltOf cfL) 0 n y) (p : Nat) (hi : p < n)
    (h1 : p = 0 ∨ x[p - 1]!.off.val ≠ x[p]!.off.val) (h2 : p + 1 = n ∨ x[p + 1]!.off.val ≠ x[p]!.off.val) : y[p]! = x[p]! := by
  have ho := offs_same hx hy hp sx sy p hi
  have hm : y[p]! ∈ y.toList := by rw [getElem!_pos y p (by omega)]; simp
  obtain ⟨q, hq, e⟩ := List.mem_iff_getElem.1 (hp.mem_iff.2 hm)
  have hq' : q < x.size := by simpa using hq
  have e' : x[q]! = y[p]! := by rw [getElem!_pos x q hq']; simpa using e
  have hoq : x[q]!.off.val = x[p]!.off.val := by rw [e', ho]
  have : q = p := by
    rcases Nat.lt_trichotomy q p with h | h | h
    · have a1 := sorted_off sx (show q ≤ p - 1 by omega) (show p - 1 < n by omega)
      have a2 := sorted_off sx (show p - 1 ≤ p by omega) hi
      rcases h1 with h1 | h1
      · omega
      · omega
    · exact h
    · have a1 := sorted_off sx (show p + 1 ≤ q by omega) (show q < n by omega)
      have a2 := sorted_off sx (show p ≤ p + 1 by omega) (show p + 1 < n by omega)
      rcases h2 with h2 | h2
      · omega
      · omega
  rw [← this, e']
  rw [this]
end Go.Proofs.Qxb6614456a
