/-
  THE WALKS of zzBytes and warningsFit.
-/
import Derived.Test.Qxb6614456aBase
namespace Go.Proofs.Qxb6614456a
open Go Go.RowKit

/-- A bool is handed back, the world is as it was. -/
def BoolPost (w : World) (Q : Bool → Prop) (e : Ending) (w' : World) : Prop := ∃ b, e = .returned (.bool b) ∧ w' = w ∧ Q b

set_option maxHeartbeats 4000000 in
set_option maxRecDepth 100000 in
theorem zz_any (a0 : Option Addr) (n0 c0 : Nat) (ao : Option Addr) (n c : Nat) (ws : List Wn) (k : Int) (w : World) (hn : ws.length = n) (hw : WsAt w ao ws) :
    Calls Try.prog 12 #[.slice a0 n0 c0, .slice ao n c, .int .i64 k] w (BoolPost w (fun _ => True)) := by
  have Hn : Hid (ws.length = n) := hn
  have Hw : Hid (WsAt w ao ws) := hw
  clear hn hw
  by_cases h1 : 1048576 < n0
  · have h1' : (1048576 : Int) < n0 := by omega
    go_enter Try.func12, Try.ntmps12
    go_wp2
    go_ret
    exact ⟨_, rfl, rfl, trivial⟩
  have h1' : ¬ (1048576 : Int) < n0 := by omega
  by_cases h2 : 1048576 < n
  · have h2' : (1048576 : Int) < n := by omega
    go_enter Try.func12, Try.ntmps12
    go_wp2
    go_ret
    exact ⟨_, rfl, rfl, trivial⟩
  have h2' : ¬ (1048576 : Int) < n := by omega
  by_cases h3 : 1048576 < n0 + n
  · have h3' : (1048576 : Int) < (n0 : Int) + n := by omega
    go_enter Try.func12, Try.ntmps12
    go_wp2
    go_ret
    exact ⟨_, rfl, rfl, trivial⟩
  have h3' : ¬ (1048576 : Int) < (n0 : Int) + n := by omega
  go_enter Try.func12, Try.ntmps12
  go_wp2
  go_loop [7, 8] (fun z i => ∃ j t : Nat, j ≤ n ∧ i = .int .i64 j ∧ z = .int .i64 t ∧ t ≤ 1048576) (fun _ i => n - (intOf i).toNat)
  case atStart => exact ⟨0, n0 + n, by omega, rfl, by simp, by omega⟩
  case round =>
    obtain ⟨j, t, hj, rfl, rfl, ht⟩ := hrel
    by_cases hlt : j < n
    · have hlt' : (j : Int) < n := by omega
      have hjl : j < ws.length := by rw [Hn.out]; exact hlt
      obtain ⟨g, q, rfl, _, hc⟩ := Hw.out j hjl
      obtain ⟨-, -, -, p3, -, p5⟩ := hc j hjl
      clear hc
      generalize ws[j].path = s1 at *
      generalize ws[j].msg = s2 at *
      by_cases g1 : 1048576 < s1.size
      · have g1' : (1048576 : Int) < s1.size := by omega
        go_wp2
        go_ret
        exact ⟨_, rfl, rfl, trivial⟩
      have g1' : ¬ (1048576 : Int) < s1.size := by omega
      by_cases g2 : 1048576 < t + s1.size
      · have g2' : (1048576 : Int) < (t : Int) + s1.size := by omega
        go_wp2
        go_ret
        exact ⟨_, rfl, rfl, trivial⟩
      have g2' : ¬ (1048576 : Int) < (t : Int) + s1.size := by omega
      by_cases g3 : 1048576 < s2.size
      · have g3' : (1048576 : Int) < s2.size := by omega
        go_wp2
        go_ret
        exact ⟨_, rfl, rfl, trivial⟩
      have g3' : ¬ (1048576 : Int) < s2.size := by omega
      by_cases g4 : 1048576 < t + s1.size + s2.size
      · have g4' : (1048576 : Int) < (t : Int) + s1.size + s2.size := by omega
        go_wp2
        go_ret
        exact ⟨_, rfl, rfl, trivial⟩
      have g4' : ¬ (1048576 : Int) < (t : Int) + s1.size + s2.size := by omega
      go_wp2
      go_round
      case rel => exact ⟨j + 1, t + s1.size + s2.size, by omega, by go_num, by go_num, by omega⟩
      case measure => simp [intOf]; omega
    · have hlt' : ¬ (j : Int) < n := by omega
      go_wp2
      go_ret
      exact ⟨_, rfl, rfl, trivial⟩

/-- The bounds that warningsFit holds. -/
def Fits (bs : List UInt8) (ws : List Wn) : Prop := bs.length ≤ 1048576 ∧ 40 * ws.length ≤ 1048576 ∧ ∀ j (h : j < ws.length), 0 ≤ ws[j].off ∧ ws[j].off ≤ bs.length

set_option maxHeartbeats 4000000 in
set_option maxRecDepth 100000 in
theorem fit_any (a0 : Option Addr) (n0 c0 : Nat) (bs : List UInt8) (ao : Option Addr) (n c : Nat) (ws : List Wn) (w : World) (hn0 : bs.length = n0) (hn : ws.length = n) (hw : WsAt w ao ws) :
    Calls Try.prog 13 #[.slice a0 n0 c0, .slice ao n c] w (BoolPost w (fun b => b = true → Fits bs ws)) := by
  have Hn0 : Hid (bs.length = n0) := hn0
  have Hn : Hid (ws.length = n) := hn
  have Hw : Hid (WsAt w ao ws) := hw
  clear hn hw hn0
  by_cases h1 : 1048576 < n0
  · have h1' : (1048576 : Int) < n0 := by omega
    go_enter Try.func13, Try.ntmps13
    go_wp2_with fail
    refine (add_no 0 n0 (by omega) (by omega) (by omega) _).mono ?_
    rintro e w' ⟨rfl, rfl⟩
    go_wp2_with fail
    go_ret
    exact ⟨_, rfl, rfl, fun h => by cases h⟩
  have h1' : (n0 : Int) ≤ 1048576 := by omega
  go_enter Try.func13, Try.ntmps13
  go_wp2_with fail
  refine (add_ok 0 n0 (by omega) (by omega) (by omega) (by omega) _).mono ?_
  rintro e w' ⟨rfl, rfl⟩
  go_wp2_with fail
  go_loop [5, 6, 19] (fun z b i => ∃ j t : Nat, j ≤ n ∧ i = .int .i64 j ∧ z = .int .i64 t ∧ b = .bool true ∧ 40 * j ≤ t ∧ t ≤ 1048576) (fun _ _ i => n - (intOf i).toNat)
  case atStart => exact ⟨0, n0, by omega, rfl, by simp, rfl, by omega, by omega⟩
  case round =>
    obtain ⟨j, t, hj, rfl, rfl, rfl, ht0, ht⟩ := hrel
    by_cases hlt : j < n
    · have hlt' : (j : Int) < n := by omega
      have hjl : j < ws.length := by rw [Hn.out]; exact hlt
      obtain ⟨g, q, rfl, _, hc⟩ := Hw.out j hjl
      obtain ⟨-, -, -, p3, -, p5⟩ := hc j hjl
      clear hc
      generalize ws[j].path = s1 at *
      generalize ws[j].msg = s2 at *
      by_cases g1 : 1048576 < t + 40
      · go_wp2_with fail
        refine (add_no t 40 (by omega) (by omega) (by omega) _).mono ?_
        rintro e w' ⟨rfl, rfl⟩
        go_wp2_with fail
        go_ret
        exact ⟨_, rfl, rfl, fun h => by cases h⟩
      go_wp2_with fail
      refine (add_ok t 40 (by omega) (by omega) (by omega) (by omega) _).mono ?_
      rintro e w' ⟨rfl, rfl⟩
      go_wp2_with fail
      by_cases g2 : 1048576 < t + 40 + s1.size
      · refine (add_no (t + 40) s1.size (by omega) (by omega) (by omega) _).mono ?_
        rintro e w' ⟨rfl, rfl⟩
        go_wp2_with fail
        go_ret
        exact ⟨_, rfl, rfl, fun h => by cases h⟩
      refine (add_ok (t + 40) s1.size (by omega) (by omega) (by omega) (by omega) _).mono ?_
      rintro e w' ⟨rfl, rfl⟩
      go_wp2_with fail
      by_cases g3 : 1048576 < t + 40 + s1.size + s2.size
      · refine (add_no (t + 40 + s1.size) s2.size (by omega) (by omega) (by omega) _).mono ?_
        rintro e w' ⟨rfl, rfl⟩
        go_wp2_with fail
        go_ret
        exact ⟨_, rfl, rfl, fun h => by cases h⟩
      refine (add_ok (t + 40 + s1.size) s2.size (by omega) (by omega) (by omega) (by omega) _).mono ?_
      rintro e w' ⟨rfl, rfl⟩
      go_wp2_with fail
      go_round
      case rel => exact ⟨j + 1, t + 40 + s1.size + s2.size, by omega, by go_num, by go_num, rfl, by omega, by omega⟩
      case measure => simp [intOf]; omega
    · have hlt' : ¬ (j : Int) < n := by omega
      obtain rfl : j = n := by omega
      go_wp2_with fail
      go_loop [58] (fun i => ∃ m : Nat, m ≤ j ∧ i = .int .i64 m ∧ Hid (∀ i (h : i < ws.length), i < m → 0 ≤ ws[i].off ∧ ws[i].off ≤ bs.length)) (fun i => j - (intOf i).toNat)
      case atStart => exact ⟨0, by omega, rfl, fun i _ h => by omega⟩
      case round =>
        obtain ⟨m, hm, rfl, HB⟩ := hrel
        by_cases hlt2 : m < j
        · have hlt2' : (m : Int) < j := by omega
          have hml : m < ws.length := by rw [Hn.out]; exact hlt2
          obtain ⟨g, q, rfl, _, hc⟩ := Hw.out m hml
          obtain ⟨p0, -, -, -, -, -⟩ := hc m hml
          clear hc
          have HO : Hid (∃ o, ws[m].off = o) := ⟨_, rfl⟩
          obtain ⟨o, ho⟩ := HO.out
          rw [ho] at p0
          have HO2 : Hid (ws[m].off = o) := ho
          clear ho HO
          by_cases k1 : o < 0
          · go_wp2_with fail
            go_ret
            exact ⟨_, rfl, rfl, fun h => by cases h⟩
          by_cases k2 : (n0 : Int) < o
          · go_wp2_with fail
            go_ret
            exact ⟨_, rfl, rfl, fun h => by cases h⟩
          go_wp2_with fail
          go_round
          case rel =>
            refine ⟨m + 1, by omega, by go_num, fun i hi hlt3 => ?_⟩
            by_cases e : i = m
            · subst e
              rw [HO2.out, Hn0.out]
              omega
            · exact HB.out i hi (by omega)
          case measure => simp [intOf]; omega
        · have hlt2' : ¬ (m : Int) < j := by omega
          go_wp2_with fail
          go_ret
          refine ⟨_, rfl, rfl, fun _ => ⟨by rw [Hn0.out]; omega, by rw [Hn.out]; omega, fun i hi => HB.out i hi (by rw [Hn.out] at hi; omega)⟩⟩
end Go.Proofs.Qxb6614456a
