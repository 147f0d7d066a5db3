/-
  The proof's frame is the shell's (written by program, proof-skeleton.mjs); the walk is filled in.
-/
import Derived.Test.Qxb6614561aRows
import Derived.WalkKit
import Derived.ProofKit
import Derived.OpenShut
import Derived.ShutString
import Derived.Test.Qxb6614561aKeyReads
namespace Go.Proofs.Qxb6614561a.fnDeadlineKeyOrdersAndInverts
open Go.ChangeShapes Go.WideShapes Go.ChangeAt Go.RowKit
open Go.ChangeMaps (open_string shut_string)
set_option linter.unusedVariables false      -- a walk need not use every 'w<i>' (that an integer argument fits its kind)

theorem own : ownKnob Try.prog.godebug = none := by kernel_rfl

/-! ### STEP 1: THE WALK: the Go text returns true. 'Grown w w'': the world has at most new blocks (Derived/RowKit3.lean). Part the cases AHEAD of 'go_enter' where a test parts the walk; take each callee by a contract of your own. -/

/-- The law's own text, the four calls by their contracts; 'lt', 'eq': how the two keys compare. -/
theorem walk_gen (a0 a1 a2 a3 : Int) (k1 k2 : ByteArray) (lt eq : Bool) (w : World)
    (c1 : Hid (∀ w : World, Calls Try.prog 4 #[.int .i64 a0, .int .u64 a1] w fun r w' => r = .returned (.string k1) ∧ Below w.heap.size w w'))
    (c2 : Hid (∀ w : World, Calls Try.prog 4 #[.int .i64 a2, .int .u64 a3] w fun r w' => r = .returned (.string k2) ∧ Below w.heap.size w w'))
    (r1 : Hid (∀ w : World, Calls Try.prog 5 #[.string k1, .int .i64 a0, .int .u64 a1] w fun r w' => r = .returned (.bool true) ∧ w' = w))
    (r2 : Hid (∀ w : World, Calls Try.prog 5 #[.string k2, .int .i64 a2, .int .u64 a3] w fun r w' => r = .returned (.bool true) ∧ w' = w))
    (hlt : Op.bytesLess k1.toList k2.toList = lt) (heq : (k1.toList == k2.toList) = eq)
    (h : (a0 < a2 ∧ lt = true ∧ eq = false) ∨ (a2 < a0 ∧ lt = false ∧ eq = false) ∨ (a0 = a2 ∧ a1 < a3 ∧ lt = true ∧ eq = false) ∨ (a0 = a2 ∧ a3 < a1 ∧ lt = false ∧ eq = false) ∨ (a0 = a2 ∧ a1 = a3 ∧ lt = false ∧ eq = true)) :
    Calls Try.prog 3 #[.int .i64 a0, .int .u64 a1, .int .i64 a2, .int .u64 a3] w fun e w' => e = .returned (.bool true) ∧ Below w.heap.size w w' := by
  rcases h with ⟨h1, rfl, rfl⟩ | ⟨h1, rfl, rfl⟩ | ⟨rfl, h1, rfl, rfl⟩ | ⟨rfl, h1, rfl, rfl⟩ | ⟨rfl, rfl, rfl, rfl⟩
  all_goals
    go_enter Try.func3, Try.ntmps3
    go_wp2_with fail
    refine (c1.out _).mono ?_
    rintro e wa ⟨rfl, hba⟩
    go_wp2_with fail
    refine (c2.out _).mono ?_
    rintro e wb ⟨rfl, hbb⟩
    go_wp2_with fail
    refine (r1.out _).mono ?_
    rintro e w' ⟨rfl, rfl⟩
    go_wp2_with fail
    refine (r2.out _).mono ?_
    rintro e w' ⟨rfl, rfl⟩
    go_wp2
    go_ret
    exact ⟨rfl, hba.trans (hbb.mono hba.size)⟩

theorem walk (a0 : Int) (a1 : Int) (a2 : Int) (a3 : Int) (w0 : (Lit.int .i64 a0).wf = true) (w1 : (Lit.int .u64 a1).wf = true) (w2 : (Lit.int .i64 a2).wf = true) (w3 : (Lit.int .u64 a3).wf = true) (w : World) :
    Calls Try.prog 3 #[.int .i64 a0, .int .u64 a1, .int .i64 a2, .int .u64 a3] w fun e w' => e = .returned (.bool true) ∧ Below w.heap.size w w' := by
  have b0 := bounds_i64 w0
  have b1 := bounds_u64 w1
  have b2 := bounds_i64 w2
  have b3 := bounds_u64 w3
  have hl := key_less (a0 + 9223372036854775808).toNat a1.toNat (a2 + 9223372036854775808).toNat a3.toNat (by omega) (by omega) (by omega) (by omega)
  have he := key_eq (a0 + 9223372036854775808).toNat a1.toNat (a2 + 9223372036854775808).toNat a3.toNat (by omega) (by omega) (by omega) (by omega)
  refine walk_gen a0 a1 a2 a3 _ _ _ _ w (fun w => zzkey_any a0 a1 (by omega) (by omega) (by omega) (by omega) w) (fun w => zzkey_any a2 a3 (by omega) (by omega) (by omega) (by omega) w)
    (fun w => reads_any a0 a1 (by omega) (by omega) (by omega) (by omega) w) (fun w => reads_any a2 a3 (by omega) (by omega) (by omega) (by omega) w)
    (Eq.trans (by rw [ByteArray.toList_mk, ByteArray.toList_mk]) hl) (Eq.trans (by rw [ByteArray.toList_mk, ByteArray.toList_mk]) he) ?_
  simp only [decide_eq_true_eq, decide_eq_false_iff_not]
  omega

/-! ### THE ROW's STEP: WRITTEN OUT: LEAVE IT -/
set_option maxRecDepth 100000 in
theorem lifted (os : Os) (started : os.Started) (H : Type) (enc : TypeId × Value → H) :
    ReturnsInHanded {} Try.checked os 3 .any (Rows.fnDeadlineKeyOrdersAndInvertsSpec.pre6 enc Try.prog Try.f3 Rows.fnDeadlineKeyOrdersAndInvertsRow.domain false) (Rows.fnDeadlineKeyOrdersAndInvertsSpec.post enc Try.prog Try.f3 false true false false) := by
  refine returnsInHanded_of_change (C := Try.checked) own started (by kernel_rfl) Try.func3
    (ChangeSpec.witness6 (enc := enc) (C := Try.checked) false ⟨#[], #[.int .i64 0, .int .u64 0, .int .i64 0, .int .u64 0], []⟩ 8 (by kernel_rfl) (by kernel_rfl) (by kernel_rfl) (by kernel_rfl)) ?_
  intro W base args ds gs before hval0 hW hcnd _
  have hval : ∀ (j : Nat) t v, Try.f3.params[j]? = some t → args[j]? = some v → Value.okWide Try.prog W .any base t v := hval0
  have hW' := hW
  obtain ⟨p, q, hA0, hV, rfl, hfz, hnd⟩ := hW
  have hA : DataW.TrodAll enc Try.prog W 0 (fun _ => true) true Try.f3.params.toList args.toList ds p := hA0
  rw [Try.params3] at hA hval
  obtain ⟨v0, vs0, d0, ds0, p0, q0, hargs, rfl, rfl, h0, r0⟩ := trodAll_cons hA
  obtain ⟨v1, vs1, d1, ds1, p1, q1, rfl, rfl, rfl, h1, r1⟩ := trodAll_cons r0
  obtain ⟨v2, vs2, d2, ds2, p2, q2, rfl, rfl, rfl, h2, r2⟩ := trodAll_cons r1
  obtain ⟨v3, vs3, d3, ds3, p3, q3, rfl, rfl, rfl, h3, r3⟩ := trodAll_cons r2
  obtain ⟨rfl, rfl, rfl⟩ := trodAll_nil r3
  obtain rfl : args = #[v0, v1, v2, v3] := by cases args; simp_all
  obtain ⟨rfl, rfl⟩ := trodVars_none hV
  obtain ⟨a0, rfl, rfl, rfl, w0⟩ := open_int Try.underlying2 (hval 0 2 v0 rfl rfl) h0
  obtain ⟨a1, rfl, rfl, rfl, w1⟩ := open_int Try.underlying22 (hval 1 22 v1 rfl rfl) h1
  obtain ⟨a2, rfl, rfl, rfl, w2⟩ := open_int Try.underlying2 (hval 2 2 v2 rfl rfl) h2
  obtain ⟨a3, rfl, rfl, rfl, w3⟩ := open_int Try.underlying22 (hval 3 22 v3 rfl rfl) h3
  clear hA0 hval0
  simp only [List.append_nil] at hW'
  refine (walk a0 a1 a2 a3 w0 w1 w2 w3 W).mono fun e W' ⟨he, hg⟩ => ?_
  subst he
  exact ⟨_, rfl, _, _, _, [], [], [], hW', trodAll_cons_mk (shut_bool Try.underlying4 _) trodAll_mk0, trodAll_cons_mk (shut_int Try.underlying2 w0) (trodAll_cons_mk (shut_int Try.underlying22 w1) (trodAll_cons_mk (shut_int Try.underlying2 w2) (trodAll_cons_mk (shut_int Try.underlying22 w3) trodAll_mk0))), rfl, hg.frame _, fun h => by cases h⟩

theorem over : Rows.fnDeadlineKeyOrdersAndInvertsRow.holds Try.pinned (OpenSpec.ofChange Rows.fnDeadlineKeyOrdersAndInvertsSpec) :=
  OpenClaim.holds_of_wide 3 Try.f3 rfl rfl rfl rfl rfl rfl rfl ⟨rfl, rfl, rfl, rfl, rfl⟩ rfl rfl rfl rfl rfl (by kernel_rfl) Try.func3 (by kernel_rfl)
    (of_decide_eq_true (by kernel_rfl)) (by unfold Func.isWrapper; first | (rw [if_pos (by decide +kernel)]; kernel_rfl) | (rw [if_neg (by decide +kernel)]; exact ⟨rfl, rfl⟩))
    (fun os started H enc _ => lifted os started H enc)

/-- ████ THE STATEMENT ████ -/
theorem proved : Rows.FnDeadlineKeyOrdersAndInvertsSaid :=
  over
#print axioms proved
end Go.Proofs.Qxb6614561a.fnDeadlineKeyOrdersAndInverts
