/-
  THE WALK of zLayout: the head; the whole function.
-/
import Derived.Test.Qxb6614561aFmtLayF
namespace Go.Proofs.Qxb6614561aFmt
open Go Go.RowKit Go.Extern.Stop Go.Stop Go.Extern
set_option linter.unusedVariables false

theorem and199 (f : Int) (h0 : 0 ≤ f) (h1 : f < 256) : bits BinOp.and IntKind.u8 f 199 = bits BinOp.andNot IntKind.u8 f 56 := by
  rw [u8_and f 199 h0 h1 (by omega) (by omega), u8_andNot f 56 h0 h1 (by omega) (by omega)]
  rfl

theorem be_one (bs : List UInt8) (p : Nat) (h : p < bs.length) : be bs p 1 = bs[p].toNat := by
  rw [be_succ bs p 0 h, be_zero]; simp

set_option maxHeartbeats 4000000 in
set_option maxRecDepth 100000 in
theorem layout_any (g n : Nat) (bs : List UInt8) (hn : bs.length = n) (hmax : n ≤ 1048576) (ao : Option Addr) (w : World) (hg : g < w.heap.size) (hbs : Bs w g bs) (hao : ao = some ⟨g, 0, none⟩ ∨ (ao = none ∧ bs = [])) :
    Calls Tryf.prog 6 #[.slice ao n n] w fun e w' => LayEnd w g bs e w' := by
  have Hn : Hid (bs.length = n) := hn
  by_cases h0 : n = 0
  · have H0 : Hid (n = 0) := h0
    have h0' : ((n : Int) == 0) = true := by simp [h0]
    clear h0 hn hao
    go_enter Tryf.func6, Tryf.ntmps6
    go_upto_if 20 with fail
    go_wp2_with fail
    refine ret_region _ 21 _ false _ _ _ w.heap.size (w.heap.size + 1) zeroA zeroA (by omega) (by simp) rfl rfl (cmdR _ _) rfl (cmdC _ _) ⟨_, _, _, _, _, _, _, _, _, _, _, _, _, _, _, _, _, _, _, _, rfl⟩ ?_
    go_step
    go_step
    go_step
    refine ret_post 21 false _ _ _ w.heap.size _ (by omega) (by simp) rfl rfl (cmdR _ _) ⟨_, _, _, _, _, _, _, _, _, _, _, _, _, _, _, _, _, _, _, _, rfl⟩ ?_
    refine ⟨0, 0, 1, _, false, ⟨by omega, by omega, by omega, by omega, .inl ⟨by rw [Hn.out, H0.out], rfl⟩⟩, rfl, ⟨_, _, _, _, _, _, _, _, _, _, _, _, _, _, _, _, _, _, _, _, rfl⟩, .inl ⟨rfl, ?_⟩, ?_⟩
    · exact .inl (by rw [Hn.out, H0.out]; omega)
    · exact ((((Below.refl _ w).alloc (Nat.le_refl _) _).alloc (by simp) _).drew).trans (Lib.below_setCells_w (Nat.le_refl _) _ _ _)
  have h0' : ((n : Int) == 0) = false := by simp; omega
  have h0i : ¬ (n : Int) = 0 := by omega
  have h1 : 1 ≤ n := by omega
  have hao' : ao = some ⟨g, 0, none⟩ := by
    rcases hao with h | ⟨_, h⟩
    · exact h
    · rw [h] at hn; simp at hn; omega
  subst hao'
  clear hao
  obtain ⟨f, hc0, hf0, hf1, Hf⟩ : ∃ f : Int, (((w.alloc ZO).alloc (.cells zeroA 30))).cell? ⟨g, 0, none⟩ = some (.int .u8 f) ∧ 0 ≤ f ∧ f < 256 ∧ Hid (f = (be bs 0 1 : Nat)) := by
    refine ⟨_, bs2 hbs hg _ _ 0 (by omega), by omega, ?_, ?_⟩
    · have := UInt8.toNat_lt (bs[0]'(by omega)); omega
    · unfold Hid; rw [be_one bs 0 (by omega)]
  obtain ⟨hbd0, hbd1⟩ := andNot_bd f hf0 hf1
  have H199 : Hid (bits BinOp.and IntKind.u8 f 199 = bits BinOp.andNot IntKind.u8 f 56) := and199 f hf0 hf1
  have h1n : Hid (1 ≤ bs.length) := by unfold Hid; omega
  clear hn h0
  go_enter Tryf.func6, Tryf.ntmps6
  go_upto_if 28 with fail
  cases hz : (bits BinOp.and IntKind.u8 f 199 == 0)
  · have Hz : Hid (¬ bits BinOp.andNot IntKind.u8 f 56 = 0) := by
      unfold Hid; rw [← H199.out]; simpa using hz
    have Hh : Hid (HeadRel bs f (bits BinOp.and IntKind.u8 f 199) 1) := by
      refine ⟨hf0, hf1, ?_, ?_, .inr ⟨h1n.out, Hf.out, .inl ⟨Hz.out, H199.out, rfl⟩⟩⟩
      · rw [H199.out]; exact hbd0
      · rw [H199.out]; exact hbd1
    go_step
    go_step
    go_step
    go_step
    exact lay_8 g n bs w hg hbs Hn hmax f _ 1 _ _ _ _ _ _ _ _ _ _ _ _ _ _ _ _ _ _ _ _ _ _ _ _ _ _ _ _ _ _ _ _ _ _ _ _ _ _ _ _ _ _ _ _ _ _ _ _ _ _ _ _ _ _ _ _ _ _ _ _ _ _ _ _ _ _ _ _ _ _ _ _ _ _ _ _ _ _ _ _ _ _ _ _ _ _ _ _ _ _ _ _ _ _ _ _ _ _ _ _ _ _ _ _ _ _ _ _ _ _ _ _ _ _ _ _ _ _ _ _ _ _ _ _ _ _ _ _ _ _ _ _ _ _ _ _ _ _ _ _ _ _ _ _ _ _ _ _ _ _ _ _ _ _ _ _ _ _ _ _ _ _ _ _ _ _ _ _ _ _ _ _ _ _ _ _ _ _ _ _ _ _ _ _ _ _ _ _ _ _ _ _ _ _ _ _ _ _ _ _ _ _ _ _ _ _ _ Hh ⟨Hh.out.2.2.1, Hh.out.2.2.2.1⟩ h1
  · have Hz : Hid (bits BinOp.andNot IntKind.u8 f 56 = 0) := by
      unfold Hid; rw [← H199.out]; simpa using hz
    by_cases h2 : n < 2
    · have h2' : (n : Int) < 2 := by omega
      go_wp2_with fail
      refine ret_region _ 31 _ false _ _ _ w.heap.size (w.heap.size + 1) zeroA zeroA (by omega) (by simp) rfl rfl (cmdR _ _) rfl (cmdC _ _) ⟨_, _, _, _, _, _, _, _, _, _, _, _, _, _, _, _, _, _, _, _, rfl⟩ ?_
      go_step
      go_step
      go_step
      refine ret_post 31 false _ _ _ w.heap.size _ (by omega) (by simp) rfl rfl (cmdR _ _) ⟨_, _, _, _, _, _, _, _, _, _, _, _, _, _, _, _, _, _, _, _, rfl⟩ ?_
      refine ⟨f, 0, 2, _, false, ⟨hf0, hf1, by omega, by omega, .inr ⟨h1n.out, Hf.out, .inr ⟨Hz.out, rfl, fun h => by rw [Hn.out] at h; omega⟩⟩⟩, rfl, ⟨_, _, _, _, _, _, _, _, _, _, _, _, _, _, _, _, _, _, _, _, rfl⟩, .inl ⟨rfl, ?_⟩, ?_⟩
      · exact .inl (by rw [Hn.out]; exact h2)
      · exact ((((Below.refl _ w).alloc (Nat.le_refl _) _).alloc (by simp) _).drew).trans (Lib.below_setCells_w (Nat.le_refl _) _ _ _)
    have h2' : ¬ (n : Int) < 2 := by omega
    have h2i : (1 : Int) < n := by omega
    obtain ⟨Y, hc1, hY0, hY1, HY⟩ : ∃ Y : Int, (((w.alloc ZO).alloc (.cells zeroA 30))).cell? ⟨g, 1, none⟩ = some (.int .u8 Y) ∧ 0 ≤ Y ∧ Y < 256 ∧ Hid (Y = (be bs 1 1 : Nat)) := by
      have hl := Hn.out
      refine ⟨_, bs2 hbs hg _ _ 1 (by omega), by omega, ?_, ?_⟩
      · have := UInt8.toNat_lt (bs[1]'(by omega)); omega
      · unfold Hid; rw [be_one bs 1 (by omega)]
    go_upto_if 36 with fail
    by_cases h8 : Y < 8
    · have h8' : decide (Y < 8) = true := by simpa using h8
      go_wp2_with fail
      refine ret_region _ 37 _ false _ _ _ w.heap.size (w.heap.size + 1) zeroA zeroA (by omega) (by simp) rfl rfl (cmdR _ _) rfl (cmdC _ _) ⟨_, _, _, _, _, _, _, _, _, _, _, _, _, _, _, _, _, _, _, _, rfl⟩ ?_
      go_step
      go_step
      go_step
      refine ret_post 37 false _ _ _ w.heap.size _ (by omega) (by simp) rfl rfl (cmdR _ _) ⟨_, _, _, _, _, _, _, _, _, _, _, _, _, _, _, _, _, _, _, _, rfl⟩ ?_
      refine ⟨f, 0, 2, _, false, ⟨hf0, hf1, by omega, by omega, .inr ⟨h1n.out, Hf.out, .inr ⟨Hz.out, rfl, fun h => .inl ⟨by have := HY.out; omega, rfl⟩⟩⟩⟩, rfl, ⟨_, _, _, _, _, _, _, _, _, _, _, _, _, _, _, _, _, _, _, _, rfl⟩, .inl ⟨rfl, ?_⟩, ?_⟩
      · exact .inr (.inl (by omega))
      · exact ((((Below.refl _ w).alloc (Nat.le_refl _) _).alloc (by simp) _).drew).trans (Lib.below_setCells_w (Nat.le_refl _) _ _ _)
    have h8' : decide (Y < 8) = false := by simpa using h8
    have Hh : Hid (HeadRel bs f Y 2) := ⟨hf0, hf1, hY0, hY1, .inr ⟨h1n.out, Hf.out, .inr ⟨Hz.out, rfl, fun h => .inr ⟨by have := HY.out; omega, HY.out⟩⟩⟩⟩
    repeat (first | exact lay_8 g n bs w hg hbs Hn hmax f _ 2 _ _ _ _ _ _ _ _ _ _ _ _ _ _ _ _ _ _ _ _ _ _ _ _ _ _ _ _ _ _ _ _ _ _ _ _ _ _ _ _ _ _ _ _ _ _ _ _ _ _ _ _ _ _ _ _ _ _ _ _ _ _ _ _ _ _ _ _ _ _ _ _ _ _ _ _ _ _ _ _ _ _ _ _ _ _ _ _ _ _ _ _ _ _ _ _ _ _ _ _ _ _ _ _ _ _ _ _ _ _ _ _ _ _ _ _ _ _ _ _ _ _ _ _ _ _ _ _ _ _ _ _ _ _ _ _ _ _ _ _ _ _ _ _ _ _ _ _ _ _ _ _ _ _ _ _ _ _ _ _ _ _ _ _ _ _ _ _ _ _ _ _ _ _ _ _ _ _ _ _ _ _ _ _ _ _ _ _ _ _ _ _ _ _ _ _ _ _ _ _ _ _ _ _ _ _ _ Hh ⟨Hh.out.2.2.1, Hh.out.2.2.2.1⟩ (by omega) | go_step)
end Go.Proofs.Qxb6614561aFmt
