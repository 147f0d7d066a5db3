/-
  THE WALKS of 'FnReadsBodiesAllButTheLightChecks': each look-up in the listed map is a hypothesis over every later world.
-/
import Derived.Test.Qxb6608707aDoorProg
import Derived.WalkKit
import Derived.WalkSpells
import Derived.Below
import Derived.Deep.RegionWith
import Derived.Laws.IdiomStrings
namespace Go.Proofs.Qxb6608707aDoor
open Go Go.RowKit

/-- The plain function: does the check read bodies? (the text's eight digits) -/
def rb (s : ByteArray) : Bool := decide (s = { data := #[48] }) || decide (s = { data := #[50] }) || decide (s = { data := #[52] }) || decide (s = { data := #[53] }) || decide (s = { data := #[55] })

/-- What the look-ups answer, in one world. -/
def Looks (bm : Nat) (w : World) : Prop :=
  w.cell? ⟨0, 0, none⟩ = some (.map (some bm)) ∧ ∀ s : ByteArray, s.size ≤ maxLen → ∃ x y : ByteArray, (Instr.lookup 28 (.map (some bm)) (.string s) false).run Tryd.prog w = .ok (.agg #[.string x, .bool (rb s), .string y]) w

theorem reads_any (bm : Nat) (s : ByteArray) (hs : s.size ≤ maxLen) (w : World) (h : Looks bm w) :
    Calls Tryd.prog 5 #[.string s] w fun e w' => e = .returned (.bool (rb s)) ∧ w' = w := by
  obtain ⟨hc, hl⟩ := h
  obtain ⟨x, y, hrun⟩ := hl s hs
  clear hl hs
  generalize rb s = b at *
  have hf : ∀ w : World, (Instr.field 27 (.agg #[.string x, .bool b, .string y]) 1).run Tryd.prog w = .ok (.bool b) w := fun _ => by kernel_rfl
  go_enter Tryd.func5, Tryd.ntmps5
  go_wp2
  go_ret
  exact ⟨rfl, rfl⟩

theorem isMode_no (s : ByteArray) (h : s.size ≠ 1) (w : World) : Calls Tryd.prog 6 #[.string s] w fun e w' => e = .returned (.bool false) ∧ w' = w := by
  have h' : ((s.size : Int) == 1) = false := by simpa using by omega
  go_enter Tryd.func6, Tryd.ntmps6
  go_wp2
  go_ret
  exact ⟨rfl, rfl⟩

/-- A string that is no digit: nothing reads. -/
theorem walk_long (s : ByteArray) (h : 1048576 < s.size) (w : World) :
    Calls Tryd.prog 3 #[.string s] w fun e w' => e = .returned (.bool true) ∧ Below w.heap.size w w' := by
  have h' : (1048576 : Int) < s.size := by omega
  go_enter Tryd.func3, Tryd.ntmps3
  go_wp2
  go_ret
  exact ⟨rfl, Below.refl _ _⟩

theorem rb_no (s : ByteArray) (h : s.size ≠ 1) : rb s = false := by
  unfold rb
  simp only [Bool.or_eq_false_iff, decide_eq_false_iff_not]
  refine ⟨⟨⟨⟨?_, ?_⟩, ?_⟩, ?_⟩, ?_⟩ <;> (rintro rfl; exact h rfl)

theorem ret_bool {a b : Bool} (h : a = b) : Ending.returned (.bool a) = .returned (.bool b) := by rw [h]

theorem zz_ok (s : ByteArray) (h : s.size ≤ 1048576) (w : World) : Calls Tryd.prog 4 #[.string s] w fun e w' => e = .returned (.bool true) ∧ w' = w := by
  have h' : ¬ (1048576 : Int) < s.size := by omega
  go_enter Tryd.func4, Tryd.ntmps4
  go_wp2
  go_ret
  exact ⟨rfl, rfl⟩

theorem isMode_one (c : UInt8) (h : c.toNat < 48 ∨ 55 < c.toNat) (w : World) : Calls Tryd.prog 6 #[.string { data := #[c] }] w fun e w' => e = .returned (.bool false) ∧ w' = w := by
  have he : ({ data := #[c] } : ByteArray)[0]'(by show 0 < 1; omega) = c := rfl
  rcases h with h | h
  · have h' : (c.toNat : Int) < 48 := by omega
    go_enter Tryd.func6, Tryd.ntmps6
    go_wp2
    go_ret
    exact ⟨rfl, rfl⟩
  · have h' : (55 : Int) < c.toNat := by omega
    go_enter Tryd.func6, Tryd.ntmps6
    go_wp2
    go_ret
    exact ⟨ret_bool (by simpa using by omega), rfl⟩

/-- As 'reads_any', the answer by a name. -/
theorem reads_val (b : Bool) (bm : Nat) (s : ByteArray) (hb : rb s = b) (w : World) (hs : s.size ≤ maxLen) (h : Looks bm w) :
    Calls Tryd.prog 5 #[.string s] w fun e w' => e = .returned (.bool b) ∧ w' = w := hb ▸ reads_any bm s hs w h

/-- No digit: nothing reads. -/
theorem walk_no (bm : Nat) (s : ByteArray) (h2 : s.size ≤ 1048576) (w : World) (hl : Looks bm w) (hb : rb s = false)
    (hm : ∀ w : World, Calls Tryd.prog 6 #[.string s] w fun e w' => e = .returned (.bool false) ∧ w' = w) :
    Calls Tryd.prog 3 #[.string s] w fun e w' => e = .returned (.bool true) ∧ Below w.heap.size w w' := by
  have h' : ¬ (1048576 : Int) < s.size := by omega
  have hs : s.size ≤ maxLen := by unfold maxLen; omega
  have Hm : Hid (∀ w : World, Calls Tryd.prog 6 #[.string s] w fun e w' => e = .returned (.bool false) ∧ w' = w) := hm
  have Hb : Hid (rb s = false) := hb
  clear hm hb
  go_enter Tryd.func3, Tryd.ntmps3
  go_wp2_with (first | (go_at_call 4; refine (zz_ok s h2 _).mono ?_; rintro e w' ⟨rfl, rfl⟩) | (go_at_call 5; refine (reads_val false bm s Hb.out _ hs hl).mono ?_; rintro e w' ⟨rfl, rfl⟩) | (go_at_call 6; refine (Hm.out _).mono ?_; rintro e w' ⟨rfl, rfl⟩))
  go_ret
  exact ⟨rfl, Below.refl _ _⟩

theorem isMode_yes (c : UInt8) (h : 48 ≤ c.toNat) (h2 : c.toNat ≤ 55) (w : World) : Calls Tryd.prog 6 #[.string { data := #[c] }] w fun e w' => e = .returned (.bool true) ∧ w' = w := by
  have he : ({ data := #[c] } : ByteArray)[0]'(by show 0 < 1; omega) = c := rfl
  have h' : (48 : Int) ≤ c.toNat := by omega
  have h'' : (c.toNat : Int) ≤ 55 := by omega
  go_enter Tryd.func6, Tryd.ntmps6
  go_wp2
  go_ret
  exact ⟨ret_bool (by simp), rfl⟩

/-- 'string([]byte{c})' -/
theorem conv1 (c : UInt8) (n : Int) (hn : n = c.toNat) (w : World) : (convert 23 9 (.slice (some ⟨w.heap.size, 0, none⟩) 1 1)).run Tryd.prog (w.alloc (.cells #[.int .u8 n] 5)) = .ok (.string { data := #[c] }) (w.alloc (.cells #[.int .u8 n] 5)) := by
  subst hn
  refine run_convert_bytes_back (P := Tryd.prog) (w.alloc (.cells #[.int .u8 c.toNat] 5)) 23 9 5 ⟨w.heap.size, 0, none⟩ 1 [c] Tryd.underlying23 Tryd.underlying5 Tryd.underlying9 ?_
  intro j hj
  obtain rfl : j = 0 := by simpa using hj
  exact World.cell?_alloc_new _ _ _ _

theorem writes_48 (w : World) : Calls Tryd.prog 7 #[.string { data := #[48] }] w fun e w' => e = .returned (.bool true) ∧ w' = w := by
  go_enter Tryd.func7, Tryd.ntmps7
  go_wp2
  go_ret
  exact ⟨rfl, rfl⟩

theorem writes_50 (w : World) : Calls Tryd.prog 7 #[.string { data := #[50] }] w fun e w' => e = .returned (.bool false) ∧ w' = w := by
  go_enter Tryd.func7, Tryd.ntmps7
  go_wp2
  go_ret
  exact ⟨rfl, rfl⟩

theorem writes_52 (w : World) : Calls Tryd.prog 7 #[.string { data := #[52] }] w fun e w' => e = .returned (.bool false) ∧ w' = w := by
  go_enter Tryd.func7, Tryd.ntmps7
  go_wp2
  go_ret
  exact ⟨rfl, rfl⟩

theorem writes_53 (w : World) : Calls Tryd.prog 7 #[.string { data := #[53] }] w fun e w' => e = .returned (.bool true) ∧ w' = w := by
  go_enter Tryd.func7, Tryd.ntmps7
  go_wp2
  go_ret
  exact ⟨rfl, rfl⟩

theorem writes_55 (w : World) : Calls Tryd.prog 7 #[.string { data := #[55] }] w fun e w' => e = .returned (.bool false) ∧ w' = w := by
  go_enter Tryd.func7, Tryd.ntmps7
  go_wp2
  go_ret
  exact ⟨rfl, rfl⟩

theorem walk_48 (bm : Nat) (w : World) (hl : Looks bm w) :
    Calls Tryd.prog 3 #[.string { data := #[48] }] w fun e w' => e = .returned (.bool true) ∧ Below w.heap.size w w' := by
  go_enter Tryd.func3, Tryd.ntmps3
  go_wp2_with (first | (go_at_call 4; refine (zz_ok _ (by decide) _).mono ?_; rintro e w' ⟨rfl, rfl⟩) | (go_at_call 6; refine (isMode_yes 48 (by decide) (by decide) _).mono ?_; rintro e w' ⟨rfl, rfl⟩) | (go_at_call 7; refine (writes_48 _).mono ?_; rintro e w' ⟨rfl, rfl⟩) | (go_at_call_of 5 (Value.string { data := #[48] }); refine (reads_val true bm { data := #[48] } (by decide) _ (by decide) hl).mono ?_; rintro e w' ⟨rfl, rfl⟩))
  go_ret
  exact ⟨rfl, Below.refl _ _⟩

theorem walk_49 (bm : Nat) (w : World) (hl : Looks bm w) (hl2 : ∀ o, Looks bm (w.alloc o)) :
    Calls Tryd.prog 3 #[.string { data := #[49] }] w fun e w' => e = .returned (.bool true) ∧ Below w.heap.size w w' := by
  have he : ({ data := #[49] } : ByteArray)[0]'(by show 0 < 1; omega) = 49 := rfl
  have hcv := conv1 50 50 rfl w
  go_enter Tryd.func3, Tryd.ntmps3
  go_wp2_with (first | (go_at_call 4; refine (zz_ok _ (by decide) _).mono ?_; rintro e w' ⟨rfl, rfl⟩) | (go_at_call 6; refine (isMode_yes 49 (by decide) (by decide) _).mono ?_; rintro e w' ⟨rfl, rfl⟩) | (go_at_call_of 5 (Value.string { data := #[49] }); refine (reads_val false bm { data := #[49] } (by decide) _ (by decide) hl).mono ?_; rintro e w' ⟨rfl, rfl⟩) | (go_at_call_of 5 (Value.string { data := #[50] }); refine (reads_val true bm { data := #[50] } (by decide) _ (by decide) (hl2 _)).mono ?_; rintro e w' ⟨rfl, rfl⟩))
  go_ret
  exact ⟨rfl, (Below.refl _ _).alloc (Nat.le_refl _) _⟩

theorem walk_50 (bm : Nat) (w : World) (hl : Looks bm w) (hl2 : ∀ o, Looks bm (w.alloc o)) :
    Calls Tryd.prog 3 #[.string { data := #[50] }] w fun e w' => e = .returned (.bool true) ∧ Below w.heap.size w w' := by
  have he : ({ data := #[50] } : ByteArray)[0]'(by show 0 < 1; omega) = 50 := rfl
  have hcv := conv1 49 49 rfl w
  go_enter Tryd.func3, Tryd.ntmps3
  go_wp2_with (first | (go_at_call 4; refine (zz_ok _ (by decide) _).mono ?_; rintro e w' ⟨rfl, rfl⟩) | (go_at_call 6; refine (isMode_yes 50 (by decide) (by decide) _).mono ?_; rintro e w' ⟨rfl, rfl⟩) | (go_at_call 7; refine (writes_50 _).mono ?_; rintro e w' ⟨rfl, rfl⟩) | (go_at_call_of 5 (Value.string { data := #[50] }); refine (reads_val true bm { data := #[50] } (by decide) _ (by decide) hl).mono ?_; rintro e w' ⟨rfl, rfl⟩) | (go_at_call_of 5 (Value.string { data := #[49] }); refine (reads_val false bm { data := #[49] } (by decide) _ (by decide) (hl2 _)).mono ?_; rintro e w' ⟨rfl, rfl⟩))
  go_ret
  exact ⟨rfl, (Below.refl _ _).alloc (Nat.le_refl _) _⟩

theorem walk_51 (bm : Nat) (w : World) (hl : Looks bm w) (hl2 : ∀ o, Looks bm (w.alloc o)) :
    Calls Tryd.prog 3 #[.string { data := #[51] }] w fun e w' => e = .returned (.bool true) ∧ Below w.heap.size w w' := by
  have he : ({ data := #[51] } : ByteArray)[0]'(by show 0 < 1; omega) = 51 := rfl
  have hcv := conv1 52 52 rfl w
  go_enter Tryd.func3, Tryd.ntmps3
  go_wp2_with (first | (go_at_call 4; refine (zz_ok _ (by decide) _).mono ?_; rintro e w' ⟨rfl, rfl⟩) | (go_at_call 6; refine (isMode_yes 51 (by decide) (by decide) _).mono ?_; rintro e w' ⟨rfl, rfl⟩) | (go_at_call_of 5 (Value.string { data := #[51] }); refine (reads_val false bm { data := #[51] } (by decide) _ (by decide) hl).mono ?_; rintro e w' ⟨rfl, rfl⟩) | (go_at_call_of 5 (Value.string { data := #[52] }); refine (reads_val true bm { data := #[52] } (by decide) _ (by decide) (hl2 _)).mono ?_; rintro e w' ⟨rfl, rfl⟩))
  go_ret
  exact ⟨rfl, (Below.refl _ _).alloc (Nat.le_refl _) _⟩

theorem walk_52 (bm : Nat) (w : World) (hl : Looks bm w) (hl2 : ∀ o, Looks bm (w.alloc o)) :
    Calls Tryd.prog 3 #[.string { data := #[52] }] w fun e w' => e = .returned (.bool true) ∧ Below w.heap.size w w' := by
  have he : ({ data := #[52] } : ByteArray)[0]'(by show 0 < 1; omega) = 52 := rfl
  have hcv := conv1 51 51 rfl w
  go_enter Tryd.func3, Tryd.ntmps3
  go_wp2_with (first | (go_at_call 4; refine (zz_ok _ (by decide) _).mono ?_; rintro e w' ⟨rfl, rfl⟩) | (go_at_call 6; refine (isMode_yes 52 (by decide) (by decide) _).mono ?_; rintro e w' ⟨rfl, rfl⟩) | (go_at_call 7; refine (writes_52 _).mono ?_; rintro e w' ⟨rfl, rfl⟩) | (go_at_call_of 5 (Value.string { data := #[52] }); refine (reads_val true bm { data := #[52] } (by decide) _ (by decide) hl).mono ?_; rintro e w' ⟨rfl, rfl⟩) | (go_at_call_of 5 (Value.string { data := #[51] }); refine (reads_val false bm { data := #[51] } (by decide) _ (by decide) (hl2 _)).mono ?_; rintro e w' ⟨rfl, rfl⟩))
  go_ret
  exact ⟨rfl, (Below.refl _ _).alloc (Nat.le_refl _) _⟩

theorem walk_53 (bm : Nat) (w : World) (hl : Looks bm w) :
    Calls Tryd.prog 3 #[.string { data := #[53] }] w fun e w' => e = .returned (.bool true) ∧ Below w.heap.size w w' := by
  go_enter Tryd.func3, Tryd.ntmps3
  go_wp2_with (first | (go_at_call 4; refine (zz_ok _ (by decide) _).mono ?_; rintro e w' ⟨rfl, rfl⟩) | (go_at_call 6; refine (isMode_yes 53 (by decide) (by decide) _).mono ?_; rintro e w' ⟨rfl, rfl⟩) | (go_at_call 7; refine (writes_53 _).mono ?_; rintro e w' ⟨rfl, rfl⟩) | (go_at_call_of 5 (Value.string { data := #[53] }); refine (reads_val true bm { data := #[53] } (by decide) _ (by decide) hl).mono ?_; rintro e w' ⟨rfl, rfl⟩))
  go_ret
  exact ⟨rfl, Below.refl _ _⟩

theorem walk_54 (bm : Nat) (w : World) (hl : Looks bm w) (hl2 : ∀ o, Looks bm (w.alloc o)) :
    Calls Tryd.prog 3 #[.string { data := #[54] }] w fun e w' => e = .returned (.bool true) ∧ Below w.heap.size w w' := by
  have he : ({ data := #[54] } : ByteArray)[0]'(by show 0 < 1; omega) = 54 := rfl
  have hcv := conv1 55 55 rfl w
  go_enter Tryd.func3, Tryd.ntmps3
  go_wp2_with (first | (go_at_call 4; refine (zz_ok _ (by decide) _).mono ?_; rintro e w' ⟨rfl, rfl⟩) | (go_at_call 6; refine (isMode_yes 54 (by decide) (by decide) _).mono ?_; rintro e w' ⟨rfl, rfl⟩) | (go_at_call_of 5 (Value.string { data := #[54] }); refine (reads_val false bm { data := #[54] } (by decide) _ (by decide) hl).mono ?_; rintro e w' ⟨rfl, rfl⟩) | (go_at_call_of 5 (Value.string { data := #[55] }); refine (reads_val true bm { data := #[55] } (by decide) _ (by decide) (hl2 _)).mono ?_; rintro e w' ⟨rfl, rfl⟩))
  go_ret
  exact ⟨rfl, (Below.refl _ _).alloc (Nat.le_refl _) _⟩

theorem walk_55 (bm : Nat) (w : World) (hl : Looks bm w) (hl2 : ∀ o, Looks bm (w.alloc o)) :
    Calls Tryd.prog 3 #[.string { data := #[55] }] w fun e w' => e = .returned (.bool true) ∧ Below w.heap.size w w' := by
  have he : ({ data := #[55] } : ByteArray)[0]'(by show 0 < 1; omega) = 55 := rfl
  have hcv := conv1 54 54 rfl w
  go_enter Tryd.func3, Tryd.ntmps3
  go_wp2_with (first | (go_at_call 4; refine (zz_ok _ (by decide) _).mono ?_; rintro e w' ⟨rfl, rfl⟩) | (go_at_call 6; refine (isMode_yes 55 (by decide) (by decide) _).mono ?_; rintro e w' ⟨rfl, rfl⟩) | (go_at_call 7; refine (writes_55 _).mono ?_; rintro e w' ⟨rfl, rfl⟩) | (go_at_call_of 5 (Value.string { data := #[55] }); refine (reads_val true bm { data := #[55] } (by decide) _ (by decide) hl).mono ?_; rintro e w' ⟨rfl, rfl⟩) | (go_at_call_of 5 (Value.string { data := #[54] }); refine (reads_val false bm { data := #[54] } (by decide) _ (by decide) (hl2 _)).mono ?_; rintro e w' ⟨rfl, rfl⟩))
  go_ret
  exact ⟨rfl, (Below.refl _ _).alloc (Nat.le_refl _) _⟩

end Go.Proofs.Qxb6608707aDoor
