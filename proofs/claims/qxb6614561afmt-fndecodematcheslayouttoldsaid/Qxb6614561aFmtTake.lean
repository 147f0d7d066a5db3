/-
  THE WALKS of the decoder's methods: Uint64, take, number.
-/
import Derived.Test.Qxb6614561aFmtLeaf
import Derived.Deep.RegionWith
namespace Go.Proofs.Qxb6614561aFmt
open Go Go.RowKit

/-- The decoder's five cells in block D: what is left, and whether a field overran. -/
def Dec (w : World) (D : Nat) (v : Value) (sh : Bool) : Prop := ∃ (s ov : ByteArray) (wt : Int), w.heap[D]? = some (.cells #[v, .string s, .bool sh, .string ov, .int .i64 wt] 45 (0, 0))

theorem heap_setCell_at {w : World} {D j : Nat} {v : Value} {cur : Array Value} {t : TypeId} {fr : Nat × Nat} (h : w.heap[D]? = some (.cells cur t fr)) :
    (w.setCell ⟨D, j, none⟩ v).heap[D]? = some (.cells (cur.setIfInBounds j v) t fr) := by
  simp [World.setCell, Array.getElem?_modify, h]

theorem Dec.lt {w : World} {D : Nat} {v : Value} {sh : Bool} (h : Dec w D v sh) : D < w.heap.size := by
  obtain ⟨s, ov, wt, hD⟩ := h
  exact (Array.getElem?_eq_some_iff.1 hD).1

theorem take_over (D : Nat) (ao : Option Addr) (m c : Nat) (k : Int) (what : ByteArray) (hk : (m : Int) < k) (hk2 : k ≤ 9223372036854775807) (hm : m ≤ 1048576) (w : World) (h : Dec w D (.slice ao m c) false) :
    Calls Tryf.prog 15 #[.pointer (some ⟨D, 0, none⟩), .int .i64 k, .string what] w fun e w' => e = .returned (.slice none 0 0) ∧ Dec w' D (.slice ao m c) true ∧ Below D w w' := by
  obtain ⟨s, ov, wt, hD⟩ := h
  have HD : Hid (w.heap[D]? = some (.cells #[.slice ao m c, .string s, .bool false, .string ov, .int .i64 wt] 45 (0, 0))) := hD
  have c0 : w.cell? ⟨D, 0, none⟩ = some (.slice ao m c) := by simp [World.cell?, hD]
  have c2 : w.cell? ⟨D, 2, none⟩ = some (.bool false) := by simp [World.cell?, hD]
  have c3 : w.cell? ⟨D, 3, none⟩ = some (.string ov) := by simp [World.cell?, hD]
  have c4 : w.cell? ⟨D, 4, none⟩ = some (.int .i64 wt) := by simp [World.cell?, hD]
  have f2 : w.frozen? ⟨D, 2, none⟩ = false := by simp [World.frozen?, hD]
  have f3 : w.frozen? ⟨D, 3, none⟩ = false := by simp [World.frozen?, hD]
  have f4 : w.frozen? ⟨D, 4, none⟩ = false := by simp [World.frozen?, hD]
  clear hD
  go_enter Tryf.func15, Tryf.ntmps15
  go_wp2
  go_ret
  refine ⟨rfl, ⟨s, what, k, heap_setCell_at (heap_setCell_at (heap_setCell_at HD.out))⟩, ?_⟩
  exact (((Below.refl D w).setCell (p := ⟨D, 2, none⟩) (Nat.le_refl _) _).setCell (p := ⟨D, 3, none⟩) (Nat.le_refl _) _).setCell (p := ⟨D, 4, none⟩) (Nat.le_refl _) _

theorem take_sh (D : Nat) (ao : Option Addr) (m c : Nat) (k : Int) (what : ByteArray) (hk0 : 0 ≤ k) (hk2 : k ≤ 9223372036854775807) (hm : m ≤ 1048576) (w : World) (h : Dec w D (.slice ao m c) true) :
    Calls Tryf.prog 15 #[.pointer (some ⟨D, 0, none⟩), .int .i64 k, .string what] w fun e w' => e = .returned (.slice none 0 0) ∧ w' = w := by
  obtain ⟨s, ov, wt, hD⟩ := h
  have c0 : w.cell? ⟨D, 0, none⟩ = some (.slice ao m c) := by simp [World.cell?, hD]
  have c2 : w.cell? ⟨D, 2, none⟩ = some (.bool true) := by simp [World.cell?, hD]
  clear hD
  by_cases hk : (m : Int) < k
  · go_enter Tryf.func15, Tryf.ntmps15
    go_wp2
    go_ret
    exact ⟨rfl, rfl⟩
  · go_enter Tryf.func15, Tryf.ntmps15
    go_wp2
    go_ret
    exact ⟨rfl, rfl⟩

theorem take_all (D g q m : Nat) (what : ByteArray) (hm : m ≤ 1048576) (w : World) (h : Dec w D (.slice (some ⟨g, q, none⟩) m m) false) :
    Calls Tryf.prog 15 #[.pointer (some ⟨D, 0, none⟩), .int .i64 (m : Int), .string what] w fun e w' => e = .returned (.slice (some ⟨g, q, none⟩) m m) ∧ Dec w' D (.slice (some ⟨g, q, none⟩) 0 0) false ∧ Below D w w' := by
  obtain ⟨s, ov, wt, hD⟩ := h
  have HD : Hid (w.heap[D]? = some (.cells #[.slice (some ⟨g, q, none⟩) m m, .string s, .bool false, .string ov, .int .i64 wt] 45 (0, 0))) := hD
  have c0 : w.cell? ⟨D, 0, none⟩ = some (.slice (some ⟨g, q, none⟩) m m) := by simp [World.cell?, hD]
  have c2 : w.cell? ⟨D, 2, none⟩ = some (.bool false) := by simp [World.cell?, hD]
  have f0 : w.frozen? ⟨D, 0, none⟩ = false := by simp [World.frozen?, hD]
  clear hD
  go_enter Tryf.func15, Tryf.ntmps15
  go_wp2
  go_ret
  exact ⟨rfl, ⟨s, ov, wt, heap_setCell_at HD.out⟩, (Below.refl D w).setCell (p := ⟨D, 0, none⟩) (Nat.le_refl _) _⟩

theorem take_some (D g q m k : Nat) (what : ByteArray) (hk : k < m) (hm : m ≤ 1048576) (w : World) (h : Dec w D (.slice (some ⟨g, q, none⟩) m m) false) :
    Calls Tryf.prog 15 #[.pointer (some ⟨D, 0, none⟩), .int .i64 (k : Int), .string what] w fun e w' => e = .returned (.slice (some ⟨g, q, none⟩) k k) ∧ Dec w' D (.slice (some ⟨g, q + k, none⟩) (m - k) (m - k)) false ∧ Below D w w' := by
  obtain ⟨s, ov, wt, hD⟩ := h
  have HD : Hid (w.heap[D]? = some (.cells #[.slice (some ⟨g, q, none⟩) m m, .string s, .bool false, .string ov, .int .i64 wt] 45 (0, 0))) := hD
  have c0 : w.cell? ⟨D, 0, none⟩ = some (.slice (some ⟨g, q, none⟩) m m) := by simp [World.cell?, hD]
  have c2 : w.cell? ⟨D, 2, none⟩ = some (.bool false) := by simp [World.cell?, hD]
  have f0 : w.frozen? ⟨D, 0, none⟩ = false := by simp [World.frozen?, hD]
  clear hD
  have hk' : (k : Int) ≤ m := by omega
  have hne : ¬ m = k := by omega
  go_enter Tryf.func15, Tryf.ntmps15
  go_wp2
  go_ret
  exact ⟨rfl, ⟨s, ov, wt, heap_setCell_at HD.out⟩, (Below.refl D w).setCell (p := ⟨D, 0, none⟩) (Nat.le_refl _) _⟩

/-- THE DECODER STANDS AT PLACE P of the bytes bs (block g); 'short' is set just where P lies beyond their end. -/
def St (w : World) (D g : Nat) (bs : List UInt8) (P : Nat) : Prop :=
  (P ≤ bs.length ∧ ∃ ao, Dec w D (.slice ao (bs.length - P) (bs.length - P)) false ∧ (1 ≤ bs.length → ∃ q, ao = some ⟨g, q, none⟩) ∧ (P < bs.length → ao = some ⟨g, P, none⟩)) ∨
  (bs.length < P ∧ ∃ ao m c, Dec w D (.slice ao m c) true ∧ m ≤ 1048576)

theorem St.lt {w : World} {D g : Nat} {bs : List UInt8} {P : Nat} (h : St w D g bs P) : D < w.heap.size := by
  rcases h with ⟨_, ao, h, _⟩ | ⟨_, ao, m, c, h, _⟩
  · exact h.lt
  · exact h.lt

/-- What 'take' hands back: the K bytes from P on, or nil where they overrun. -/
def Took (g : Nat) (bs : List UInt8) (P K : Nat) (v : Value) : Prop :=
  (P + K ≤ bs.length → ∃ q, v = .slice (some ⟨g, q, none⟩) K K ∧ (0 < K → q = P)) ∧ (bs.length < P + K → v = .slice none 0 0)

theorem take_any (D g P : Nat) (bs : List UInt8) (hmax : bs.length ≤ 1048576) (K : Int) (k : Nat) (h1 : 1 ≤ bs.length ∨ 1 ≤ k ∨ bs.length < P) (hK : K = k) (hk2 : k ≤ 9223372036854775807) (what : ByteArray) (w : World) (h : St w D g bs P) :
    Calls Tryf.prog 15 #[.pointer (some ⟨D, 0, none⟩), .int .i64 K, .string what] w fun e w' => ∃ v, e = .returned v ∧ Took g bs P k v ∧ St w' D g bs (P + k) ∧ Below D w w' := by
  subst hK
  rcases h with ⟨hP, ao, hd, hq, ha⟩ | ⟨hP, ao, m, c, hd, hm⟩
  · by_cases hk : bs.length - P < k
    · refine (take_over D _ _ _ k what (by omega) (by omega) (by omega) w hd).mono ?_
      rintro e w' ⟨rfl, hd', hb⟩
      exact ⟨_, rfl, ⟨fun h => by omega, fun _ => rfl⟩, .inr ⟨by omega, _, _, _, hd', by omega⟩, hb⟩
    obtain ⟨q, rfl⟩ := hq (by omega)
    rcases Nat.lt_or_eq_of_le (Nat.le_of_not_lt hk) with hk | hk
    · have hqP : q = P := by have := ha (by omega); simpa using this
      subst hqP
      refine (take_some D g q _ k what hk (by omega) w hd).mono ?_
      rintro e w' ⟨rfl, hd', hb⟩
      refine ⟨_, rfl, ⟨fun _ => ⟨q, rfl, fun _ => rfl⟩, fun h => by omega⟩, .inl ⟨by omega, _, ?_, fun _ => ⟨_, rfl⟩, fun _ => rfl⟩, hb⟩
      rw [show bs.length - (q + k) = bs.length - q - k by omega]
      exact hd'
    · subst hk
      refine (take_all D g q _ what (by omega) w hd).mono ?_
      rintro e w' ⟨rfl, hd', hb⟩
      refine ⟨_, rfl, ⟨fun _ => ⟨q, rfl, fun h0 => by have := ha (by omega); simpa using this⟩, fun h => by omega⟩, .inl ⟨by omega, some ⟨g, q, none⟩, ?_, fun _ => ⟨q, rfl⟩, fun h => by omega⟩, hb⟩
      rw [show bs.length - (P + (bs.length - P)) = 0 by omega]
      exact hd'
  · refine (take_sh D ao m c k what (by omega) (by omega) hm w hd).mono ?_
    rintro e w' ⟨rfl, rfl⟩
    exact ⟨_, rfl, ⟨fun h => by omega, fun _ => rfl⟩, .inr ⟨by omega, _, _, _, hd, hm⟩, Below.refl _ _⟩

theorem cell_old {w : World} {a : Addr} {v : Value} (o : Obj) (h : w.cell? a = some v) : (w.alloc o).cell? a = some v := by
  rw [← h]
  refine World.cell?_alloc_old _ _ _ ?_
  intro e
  have : w.heap[a.block]? = none := by rw [e]; simp
  simp [World.cell?, this] at h

set_option maxHeartbeats 4000000 in
set_option maxRecDepth 100000 in
theorem u64_any (g q m c : Nat) (x0 x1 x2 x3 x4 x5 x6 x7 : Nat) (w : World) (hm : 8 ≤ m)
    (h0 : x0 < 256) (h1 : x1 < 256) (h2 : x2 < 256) (h3 : x3 < 256) (h4 : x4 < 256) (h5 : x5 < 256) (h6 : x6 < 256) (h7 : x7 < 256)
    (c0 : w.cell? ⟨g, q, none⟩ = some (.int .u8 x0)) (c1 : w.cell? ⟨g, q + 1, none⟩ = some (.int .u8 x1)) (c2 : w.cell? ⟨g, q + 2, none⟩ = some (.int .u8 x2)) (c3 : w.cell? ⟨g, q + 3, none⟩ = some (.int .u8 x3)) (c4 : w.cell? ⟨g, q + 4, none⟩ = some (.int .u8 x4)) (c5 : w.cell? ⟨g, q + 5, none⟩ = some (.int .u8 x5)) (c6 : w.cell? ⟨g, q + 6, none⟩ = some (.int .u8 x6)) (c7 : w.cell? ⟨g, q + 7, none⟩ = some (.int .u8 x7)) :
    Calls Tryf.prog 17 #[.agg #[], .slice (some ⟨g, q, none⟩) m c] w fun e w' => e = .returned (.int .u64 ((x7 : Int) + (x6 : Int) * 256 + (x5 : Int) * 65536 + (x4 : Int) * 16777216 + (x3 : Int) * 4294967296 + (x2 : Int) * 1099511627776 + (x1 : Int) * 281474976710656 + (x0 : Int) * 72057594037927936)) ∧ Below w.heap.size w w' := by
  have d0 := cell_old (.cells #[] 52) c0
  have d1 := cell_old (.cells #[] 52) c1
  have d2 := cell_old (.cells #[] 52) c2
  have d3 := cell_old (.cells #[] 52) c3
  have d4 := cell_old (.cells #[] 52) c4
  have d5 := cell_old (.cells #[] 52) c5
  have d6 := cell_old (.cells #[] 52) c6
  have d7 := cell_old (.cells #[] 52) c7
  have q0 : 0 < m := by omega
  have q1 : (1 : Int) < (m : Int) := by omega
  have q2 : (2 : Int) < (m : Int) := by omega
  have q3 : (3 : Int) < (m : Int) := by omega
  have q4 : (4 : Int) < (m : Int) := by omega
  have q5 : (5 : Int) < (m : Int) := by omega
  have q6 : (6 : Int) < (m : Int) := by omega
  have q7 : (7 : Int) < (m : Int) := by omega
  go_enter Tryf.func17, Tryf.ntmps17
  go_wp2
  go_quiet (fail)
  go_wp2
  go_ret
  refine ⟨?_, ((Below.refl _ w).alloc (Nat.le_refl _) _).trans ⟨rfl, rfl, rfl, Nat.le_refl _, fun _ _ => rfl⟩⟩
  simp (disch := omega) only [u64_or8, u64_or16, u64_or24, u64_or32, u64_or40, u64_or48, u64_or56]
  rfl
end Go.Proofs.Qxb6614561aFmt
