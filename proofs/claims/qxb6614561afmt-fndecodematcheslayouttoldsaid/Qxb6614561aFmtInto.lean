/-
  THE WALK of DecodeInto, cut by cut: on.
-/
import Derived.Test.Qxb6614561aFmtIntoC
namespace Go.Proofs.Qxb6614561aFmt
open Go Go.RowKit Go.Extern.Stop Go.Stop Go.Extern
set_option linter.unusedVariables false

set_option maxHeartbeats 8000000 in
set_option maxRecDepth 100000 in
theorem into_any (F : Interp) (C g n : Nat) (bs : List UInt8) (hn : bs.length = n) (hmax : n ≤ 1048576) (ao : Option Addr) (w : World) (hF : F.answers w.tape) (hgC : g < C) (hC : C < w.heap.size)
    (hbs : Bs w g bs) (hao : ao = some ⟨g, 0, none⟩ ∨ (ao = none ∧ bs = [])) (hcmd : Cmd w C zeroA) :
    Calls Tryf.prog 12 #[.pointer (some ⟨C, 0, none⟩), .slice ao n n] w fun e w' => IntoEnd w C g bs e w' := by
  have hCne : ¬ w.heap.size = C := by omega
  have inv0 : Inv w C w.heap.size g bs 0 zeroA (w.alloc (decO ao n)) := by
    have hb0 : Below w.heap.size w (w.alloc (decO ao n)) := (Below.refl _ _).alloc (Nat.le_refl _) _
    exact ⟨st_start g n bs hn ao w hao, hcmd.below hb0 hC, hbs.below hb0 (by omega), hb0.mono (Nat.le_of_lt hC), hgC, hC⟩
  have hlen : bs.length ≤ 1048576 := by rw [hn]; exact hmax
  have hgD : g < w.heap.size := by omega
  clear hao hbs hcmd hn
  go_enter Tryf.func12, Tryf.ntmps12
  go_wp2_with fail
  refine (number_any w.heap.size g 0 bs hlen hgD 1 1 rfl (by omega) _ _ inv0.st inv0.bytes).mono ?_
  rintro e w1 ⟨X, rfl, hX, hX1, st1, hb1⟩
  have inv1 := inv0.call st1 hb1
  have HX1 : Hid (0 + 1 ≤ bs.length → X = be bs 0 1) := hX1
  clear hX1 inv0 st1 hb1
  -- the first byte; '*c = Command{Op: ..}'
  go_upto_region 3 with fail
  go_cut [6] (fun s6 wx => ∃ f : Int, s6 = .int .u8 f ∧ Hid (0 ≤ f ∧ f < 256 ∧ (1 ≤ bs.length → f = (be bs 0 1 : Nat))) ∧ Inv w C w.heap.size g bs 1 (cmdA (.int .u8 (bits BinOp.andNot IntKind.u8 f 56)) (.string ⟨#[]⟩) (.slice none 0 0) (.slice none 0 0) (.int .u64 0) (.int .u64 0) (.int .i64 0) (.int .i64 0) (.int .u64 0) (.int .i64 0) (.bool false) (.int .u64 0) (.int .u64 0) (.int .u64 0) (.int .u64 0) (.int .i64 0)) wx)
  case first =>
    have k0 := inv1.cmd.cell 0
    have k1 := inv1.cmd.cell 1
    have k2 := inv1.cmd.cell 2
    have k3 := inv1.cmd.cell 3
    have k4 := inv1.cmd.cell 4
    have k5 := inv1.cmd.cell 5
    have k6 := inv1.cmd.cell 6
    have k7 := inv1.cmd.cell 7
    have k8 := inv1.cmd.cell 8
    have k9 := inv1.cmd.cell 9
    have k10 := inv1.cmd.cell 10
    have k11 := inv1.cmd.cell 11
    have k12 := inv1.cmd.cell 12
    have k13 := inv1.cmd.cell 13
    have k14 := inv1.cmd.cell 14
    have k15 := inv1.cmd.cell 15
    simp only [List.getElem?_toArray, List.getElem?_cons_zero, List.getElem?_cons_succ] at k0 k1 k2 k3 k4 k5 k6 k7 k8 k9 k10 k11 k12 k13 k14 k15
    have fz := inv1.cmd.frozen
    go_wp2
    go_meet
    case rel =>
      refine ⟨_, rfl, ⟨by omega, by omega, fun h => ?_⟩, ?_⟩
      · have := HX1.out (by omega)
        have h2 := be_lt bs 0 1
        omega
      · exact inv1.set16 _ _ _ _ _ _ _ _ _ _ _ _ _ _ _ _
  case rest =>
  obtain ⟨f, rfl, Hf, inv2⟩ := hcut
  clear inv1 HX1 hX
  obtain ⟨o1, ho1⟩ : ∃ o1 : Int, o1 = bits BinOp.andNot IntKind.u8 f 56 := ⟨_, rfl⟩
  rw [← ho1] at inv2
  have Ho1 : Hid (o1 = bits BinOp.andNot IntKind.u8 f 56) := ho1
  clear ho1
  -- 'if !d.short && c.Op == 0'
  go_upto_region 4 with fail
  go_cut [26] (fun s wx => ∃ b : Bool, s = .bool b ∧ Hid (b = true ↔ (1 ≤ bs.length ∧ o1 = 0)) ∧ Inv w C w.heap.size g bs 1 (cmdA (.int .u8 o1) (.string ⟨#[]⟩) (.slice none 0 0) (.slice none 0 0) (.int .u64 0) (.int .u64 0) (.int .i64 0) (.int .i64 0) (.int .u64 0) (.int .i64 0) (.bool false) (.int .u64 0) (.int .u64 0) (.int .u64 0) (.int .u64 0) (.int .i64 0)) wx)
  case first =>
    have d2 := inv2.st.short
    have k0 := inv2.cmd.cell 0
    simp only [List.getElem?_toArray, List.getElem?_cons_zero] at k0
    by_cases hs : bs.length < 1
    · rw [decide_eq_true hs] at d2
      go_wp2
      go_meet
      case rel => exact ⟨false, rfl, by constructor; (intro h; cases h); (intro h; omega), inv2⟩
    · rw [decide_eq_false hs] at d2
      go_wp2
      go_meet
      case rel => exact ⟨_, rfl, by constructor; (intro h; exact ⟨by omega, by simpa using h⟩); (intro h; simpa using h.2), inv2⟩
  case rest =>
  obtain ⟨b, rfl, Hb, inv3⟩ := hcut
  clear inv2
  go_upto_if 26 with fail
  go_cut [] (fun wx => ∃ (o : Int) (P : Nat), Hid (HeadRel bs f o P) ∧ Inv w C w.heap.size g bs P (cmdA (.int .u8 o) (.string ⟨#[]⟩) (.slice none 0 0) (.slice none 0 0) (.int .u64 0) (.int .u64 0) (.int .i64 0) (.int .i64 0) (.int .u64 0) (.int .i64 0) (.bool false) (.int .u64 0) (.int .u64 0) (.int .u64 0) (.int .u64 0) (.int .i64 0)) wx)
  case first =>
    have k0 := inv3.cmd.cell 0
    simp only [List.getElem?_toArray, List.getElem?_cons_zero] at k0
    have fz := inv3.cmd.frozen
    cases b
    · go_wp2
      go_meet
      case rel =>
        obtain ⟨hf0, hf1, hf2⟩ := Hf.out
        have hbd := andNot_bd f hf0 hf1
        have e1 := Ho1.out
        refine ⟨o1, 1, ⟨hf0, hf1, by omega, by omega, ?_⟩, inv3⟩
        by_cases h1 : 1 ≤ bs.length
        · refine .inr ⟨h1, hf2 h1, .inl ⟨fun h0 => ?_, e1, rfl⟩⟩
          have := Hb.out.2 ⟨h1, by omega⟩
          simp at this
        · exact .inl ⟨by omega, rfl⟩
    · go_wp2_with fail
      refine (number_any w.heap.size g (1) bs hlen hgD 1 1 rfl (by omega) _ _ inv3.st inv3.bytes).mono ?_
      rintro e w2 ⟨Y, rfl, hY, hvY, stY, hbY⟩
      have inv4 := inv3.call stY hbY
      have HVY : Hid ((1) + 1 ≤ bs.length → Y = be bs (1) 1) := hvY
      clear hvY stY hbY
      clear k0 fz
      have k0 := inv4.cmd.cell 0
      simp only [List.getElem?_toArray, List.getElem?_cons_zero] at k0
      have fz := inv4.cmd.frozen
      have hY' : Y < 256 := hY
      clear hY
      have hYm : (Y : Int) % 256 = Y := by omega
      by_cases h8 : Y < 8
      · have h8' : (Y : Int) < 8 := by omega
        go_wp2
        go_meet
        case rel =>
          obtain ⟨hf0, hf1, hf2⟩ := Hf.out
          obtain ⟨hb1, hb2⟩ := Hb.out.1 (by simp)
          have e1 := Ho1.out
          refine ⟨0, 2, ⟨hf0, hf1, by omega, by omega, .inr ⟨hb1, hf2 hb1, .inr ⟨by omega, rfl, fun h => .inl ⟨?_, rfl⟩⟩⟩⟩, (inv4.set 0 _).set 0 _⟩
          have := HVY.out h
          omega
      · have h8' : ¬ (Y : Int) < 8 := by omega
        go_wp2
        go_meet
        case rel =>
          obtain ⟨hf0, hf1, hf2⟩ := Hf.out
          obtain ⟨hb1, hb2⟩ := Hb.out.1 (by simp)
          have e1 := Ho1.out
          refine ⟨Y, 2, ⟨hf0, hf1, by omega, by omega, .inr ⟨hb1, hf2 hb1, .inr ⟨by omega, rfl, fun h => .inr ⟨?_, ?_⟩⟩⟩⟩, inv4.set 0 _⟩
          · have := HVY.out h
            omega
          · have := HVY.out h
            omega
  case rest =>
  obtain ⟨o, P, Hh, inv5⟩ := hcut
  clear inv3 Hb Hf Ho1
  have hobd : 0 ≤ o ∧ o < 256 := ⟨Hh.out.2.2.1, Hh.out.2.2.2.1⟩
  -- 'if !d.short && (c.Op < OpPut || c.Op > newestOp)'
  go_upto_region 8 with fail
  go_cut [56] (fun s wx => ∃ b : Bool, s = .bool b ∧ Hid (b = true ↔ (P ≤ bs.length ∧ (o < 1 ∨ 10 < o))) ∧ Inv w C w.heap.size g bs P (cmdA (.int .u8 o) (.string ⟨#[]⟩) (.slice none 0 0) (.slice none 0 0) (.int .u64 0) (.int .u64 0) (.int .i64 0) (.int .i64 0) (.int .u64 0) (.int .i64 0) (.bool false) (.int .u64 0) (.int .u64 0) (.int .u64 0) (.int .u64 0) (.int .i64 0)) wx)
  case first =>
    have d2 := inv5.st.short
    have k0 := inv5.cmd.cell 0
    simp only [List.getElem?_toArray, List.getElem?_cons_zero] at k0
    by_cases hs : bs.length < P
    · rw [decide_eq_true hs] at d2
      go_wp2
      go_meet
      case rel => exact ⟨false, rfl, by constructor; (intro h; cases h); (intro h; omega), inv5⟩
    · rw [decide_eq_false hs] at d2
      by_cases h1 : o < 1
      · go_wp2
        go_meet
        case rel => exact ⟨true, rfl, by constructor; (intro _; omega); (intro _; rfl), inv5⟩
      · have h1' : decide (o < 1) = false := by simpa using h1
        go_wp2
        go_meet
        case rel => exact ⟨decide (10 < o), rfl, by rw [decide_eq_true_iff]; constructor; (intro h; exact ⟨by omega, .inr h⟩); (intro h; omega), inv5⟩
  case rest =>
  obtain ⟨b, rfl, Hb, inv6⟩ := hcut
  clear inv5
  go_upto_if 56 with fail
  cases b
  rotate_left
  · have hFc : F.answers wc.tape := by rw [inv6.bel.tape]; exact hF
    have k0 := inv6.cmd.cell 0
    simp only [List.getElem?_toArray, List.getElem?_cons_zero] at k0
    have fz := inv6.cmd.frozen
    go_wp2_with fail
    refine (errorf_op F o wc.heap.size _ ?hFx ?hcx).mono ?_
    case hFx => exact hFc
    case hcx => simp
    rintro e w3 ⟨rfl, hb3⟩
    have hb3' : Below w.heap.size wc w3 := by
      have h1 : Below w.heap.size wc (wc.alloc (.cells #[.iface 25 (.int .u8 o)] 20)) := (Below.refl _ _).alloc (Nat.le_of_lt inv6.st.lt) _
      exact h1.trans (hb3.mono (by have := inv6.st.lt; simp; omega))
    have inv7 := inv6.call (inv6.st.other (hb3.block w.heap.size (by have := inv6.st.lt; simp; omega) |>.trans (Below.heap_alloc _ _ _ inv6.st.lt))) hb3'
    clear k0 fz hb3 hb3'
    have k0 := inv7.cmd.cell 0
    have k1 := inv7.cmd.cell 1
    have k2 := inv7.cmd.cell 2
    have k3 := inv7.cmd.cell 3
    have k4 := inv7.cmd.cell 4
    have k5 := inv7.cmd.cell 5
    have k6 := inv7.cmd.cell 6
    have k7 := inv7.cmd.cell 7
    have k8 := inv7.cmd.cell 8
    have k9 := inv7.cmd.cell 9
    have k10 := inv7.cmd.cell 10
    have k11 := inv7.cmd.cell 11
    have k12 := inv7.cmd.cell 12
    have k13 := inv7.cmd.cell 13
    have k14 := inv7.cmd.cell 14
    have k15 := inv7.cmd.cell 15
    simp only [List.getElem?_toArray, List.getElem?_cons_zero, List.getElem?_cons_succ] at k0 k1 k2 k3 k4 k5 k6 k7 k8 k9 k10 k11 k12 k13 k14 k15
    have fz := inv7.cmd.frozen
    go_wp2
    go_ret
    have inv8 := inv7.set16 (.int .u8 0) (.string ⟨#[]⟩) (.slice none 0 0) (.slice none 0 0) (.int .u64 0) (.int .u64 0) (.int .i64 0) (.int .i64 0) (.int .u64 0) (.int .i64 0) (.bool false) (.int .u64 0) (.int .u64 0) (.int .u64 0) (.int .u64 0) (.int .i64 0)
    refine ⟨f, o, P, Hh.out, inv8.bel, Nat.lt_trans inv8.CD inv8.st.lt, .inl ⟨_, rfl, ⟨_, rfl⟩, inv8.cmd, ?_⟩⟩
    have := Hb.out.1 (by simp)
    rcases this.2 with h | h
    · exact .inr (.inl h)
    · exact .inr (.inr (.inl h))
  have Hknown : Hid (bs.length < P ∨ (1 ≤ o ∧ o ≤ 10)) := by
    rcases Nat.lt_or_ge bs.length P with h | h
    · exact .inl h
    · by_cases h1 : o < 1 ∨ 10 < o
      · have := Hb.out.2 ⟨h, h1⟩
        simp at this
      · exact .inr (by omega)
  clear Hb
  have hP1 : 1 ≤ P := Hh.out.pos
  go_step
  go_step
  go_step
  go_step
  exact into_6 F C g n bs ao w hF hlen hgD hCne f _ _ _ _ _ _ _ _ _ _ _ _ _ _ _ _ _ _ _ _ _ _ _ _ _ _ _ _ _ _ _ _ _ _ _ _ _ _ _ _ _ _ _ _ _ _ _ _ _ _ _ _ _ _ _ _ _ _ _ _ _ _ _ _ _ _ _ _ _ _ _ _ _ _ _ _ _ _ _ _ _ _ _ _ _ _ _ _ _ _ _ _ _ _ _ _ _ _ _ _ _ _ _ _ _ _ _ _ _ _ _ _ _ _ _ _ _ _ _ _ _ _ _ _ _ _ _ _ _ _ _ _ _ _ _ _ _ _ _ _ _ _ _ _ _ _ _ _ _ _ _ _ _ _ _ _ _ _ _ _ _ _ o P Hh hobd Hknown hP1 inv6
end Go.Proofs.Qxb6614561aFmt
