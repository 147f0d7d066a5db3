/-
  The proof's frame is the shell's (written by program, proof-skeleton.mjs); the walk is filled in.
-/
import Derived.Test.Qxb6608987aRows
import Derived.WalkKit
import Derived.ProofKit
import Derived.OpenShut
import Derived.ShutString
import Derived.Test.Qxb6608987aSizeWalks
namespace Go.Proofs.Qxb6608987a.fnBytesSizeStep
open Go.ChangeShapes Go.WideShapes Go.ChangeAt Go.RowKit
open Go.ChangeMaps (open_string shut_string)
set_option linter.unusedVariables false      -- a walk need not use every 'w<i>' (that an integer argument fits its kind)

theorem own : ownKnob Try.prog.godebug = none := by kernel_rfl

/-! ### STEP 1: THE WALK: the Go text returns true. 'Grown w w'': the world has at most new blocks (Derived/RowKit3.lean). Part the cases AHEAD of 'go_enter' where a test parts the walk; take each callee by a contract of your own. -/
theorem walk (a0 : Int) (w0 : (Lit.int .i64 a0).wf = true) (w : World) :
    Calls Try.prog 4 #[.int .i64 a0] w fun e w' => e = .returned (.bool true) ∧ Grown w w' := by
  by_cases hneg : a0 < 0
  · go_enter Try.func4, Try.ntmps4
    go_wp2
    go_ret
    exact ⟨rfl, Grown.refl _⟩
  by_cases hbig : 9223372036854775796 < a0
  · go_enter Try.func4, Try.ntmps4
    go_wp2
    go_ret
    exact ⟨rfl, Grown.refl _⟩
  obtain ⟨n, hn⟩ : ∃ n : Nat, a0 = n := ⟨a0.toNat, by omega⟩
  have h0 : 0 ≤ a0 := by omega
  have hhi : a0 ≤ 9223372036854775796 := by omega
  have hd := dg_bd n (by omega)
  have hd2 := dg_bd (n + 1) (by omega)
  have h1 : Hid (∀ w : World, Calls Try.prog 5 #[.int .i64 a0] w fun e w' => e = .returned (.int .i64 ((dg n : Int) + a0)) ∧ w' = w) := fun w => by
    have := size_any a0 n hn (by omega) w
    rwa [← hn] at this
  have h2 : Hid (∀ w : World, Calls Try.prog 5 #[.int .i64 (a0 + 1)] w fun e w' => e = .returned (.int .i64 ((dg (n + 1) : Int) + (a0 + 1))) ∧ w' = w) := fun w => by
    have := size_any (a0 + 1) (n + 1) (by omega) (by omega) w
    rwa [show ((n + 1 : Nat) : Int) = a0 + 1 by omega] at this
  have h3 : ∀ w : World, Calls Try.prog 6 #[.int .i64 (a0 + 1)] w fun e w' => Tells (n + 1) e ∧ w' = w := fun w => by
    by_cases hs : a0 + 1 < 128
    · refine (pow_small (a0 + 1) hs w).mono fun e w' h => ⟨⟨false, h.1, ?_⟩, h.2⟩
      simpa using pw_small (n + 1) (by omega)
    · exact pow_any (a0 + 1) (n + 1) (by omega) (by omega) (by omega) w
  have h3' : Hid (∀ w : World, Calls Try.prog 6 #[.int .i64 (a0 + 1)] w fun e w' => Tells (n + 1) e ∧ w' = w) := h3
  have e1 : Hid (Pw (n + 1) → dg (n + 1) = dg n + 1) := dg_next_pw n (by omega)
  have e2 : Hid (¬ Pw (n + 1) → dg (n + 1) = dg n) := dg_next n (by omega)
  generalize dg (n + 1) = d2 at *
  generalize dg n = d at *
  clear hn hneg hbig w0 h3
  go_enter Try.func4, Try.ntmps4
  go_wp2_with fail
  refine (h1.out _).mono ?_
  rintro e w' ⟨rfl, rfl⟩
  go_wp2_with fail
  refine (h2.out _).mono ?_
  rintro e w' ⟨rfl, rfl⟩
  go_wp2_with fail
  refine (h3'.out _).mono ?_
  rintro e w' ⟨⟨r, rfl, hr⟩, rfl⟩
  cases r
  · have hx : Hid (d2 = d) := e2.out (fun h => by simpa using hr.2 h)
    clear hr e1 e2
    have hx' := hx.out
    have t1 : ((d2 : Int) + (a0 + 1) - (d + a0) == 1) = true := by simp; omega
    have t2 : (1 : Int) ≤ d + a0 - a0 := by omega
    have t3 : (d : Int) + a0 - a0 ≤ 10 := by omega
    clear hx'
    go_wp2
    go_ret
    exact ⟨ret_bool (by simp; omega), Grown.refl _⟩
  · have hx : Hid (d2 = d + 1) := e1.out (hr.1 rfl)
    clear hr e1 e2
    have hx' := hx.out
    have t1 : ((d2 : Int) + (a0 + 1) - (d + a0) == 2) = true := by simp; omega
    have t2 : (1 : Int) ≤ d + a0 - a0 := by omega
    have t3 : (d : Int) + a0 - a0 ≤ 10 := by omega
    clear hx'
    go_wp2
    go_ret
    exact ⟨ret_bool (by simp; omega), Grown.refl _⟩

/-! ### THE ROW's STEP: WRITTEN OUT: LEAVE IT -/
set_option maxRecDepth 100000 in
theorem lifted (os : Os) (started : os.Started) (H : Type) (enc : TypeId × Value → H) :
    ReturnsInHanded {} Try.checked os 4 .any (Rows.fnBytesSizeStepSpec.pre6 enc Try.prog Try.f4 Rows.fnBytesSizeStepRow.domain false) (Rows.fnBytesSizeStepSpec.post enc Try.prog Try.f4 false true false false) := by
  refine returnsInHanded_of_change (C := Try.checked) own started (by kernel_rfl) Try.func4
    (ChangeSpec.witness6 (enc := enc) (C := Try.checked) false ⟨#[], #[.int .i64 0], []⟩ 8 (by kernel_rfl) (by kernel_rfl) (by kernel_rfl) (by kernel_rfl)) ?_
  intro W base args ds gs before hval0 hW hcnd _
  have hval : ∀ (j : Nat) t v, Try.f4.params[j]? = some t → args[j]? = some v → Value.okWide Try.prog W .any base t v := hval0
  have hW' := hW
  obtain ⟨p, q, hA0, hV, rfl, hfz, hnd⟩ := hW
  have hA : DataW.TrodAll enc Try.prog W 0 (fun _ => true) true Try.f4.params.toList args.toList ds p := hA0
  rw [Try.params4] at hA hval
  obtain ⟨v0, vs0, d0, ds0, p0, q0, hargs, rfl, rfl, h0, r0⟩ := trodAll_cons hA
  obtain ⟨rfl, rfl, rfl⟩ := trodAll_nil r0
  obtain rfl : args = #[v0] := by cases args; simp_all
  obtain ⟨rfl, rfl⟩ := trodVars_none hV
  obtain ⟨a0, rfl, rfl, rfl, w0⟩ := open_int Try.underlying3 (hval 0 3 v0 rfl rfl) h0
  clear hA0 hval0
  simp only [List.append_nil] at hW'
  refine (walk a0 w0 W).mono fun e W' ⟨he, hg⟩ => ?_
  subst he
  exact ⟨_, rfl, post_of_same (pa := []) (pv := []) hW' (fun _ _ _ => (trodAll_cons_mk (shut_bool Try.underlying4 _) trodAll_mk0)) (fun sp _ => (trodAll_cons_mk (shut_int Try.underlying3 w0) trodAll_mk0)) (fun _ _ => rfl) rfl
    (hg.frame _) hg.2.1 (ok_one (by kernel_rfl) rfl (okWide_bool_mk Try.underlying4 _))⟩

theorem over : Rows.fnBytesSizeStepRow.holds Try.pinned (OpenSpec.ofChange Rows.fnBytesSizeStepSpec) :=
  OpenClaim.holds_of_wide 4 Try.f4 rfl rfl rfl rfl rfl rfl rfl ⟨rfl, rfl, rfl, rfl, rfl⟩ rfl rfl rfl rfl rfl (by kernel_rfl) Try.func4 (by kernel_rfl)
    (of_decide_eq_true (by kernel_rfl)) (by unfold Func.isWrapper; first | (rw [if_pos (by decide +kernel)]; kernel_rfl) | (rw [if_neg (by decide +kernel)]; exact ⟨rfl, rfl⟩))
    (fun os started H enc _ => lifted os started H enc)

/-- ████ THE STATEMENT ████ -/
theorem proved : Rows.FnBytesSizeStepSaid :=
  over
#print axioms proved
end Go.Proofs.Qxb6608987a.fnBytesSizeStep
