/-
  'FnReadsBodiesAllButTheLightChecks': THE ROW AND ITS TIED CARD, PROVED.
-/
import Derived.Test.Qxb6608707aDoorCards
import Derived.Test.Qxb6608707aDoorTie
import Derived.Test.Qxb6608707aDoorReadsWalks
import Derived.ProofKit
import Derived.LaidMore
import Derived.OpenShut
import Derived.OpenVars
import Derived.Stop.Joined
import Derived.Deep.Strs
import Derived.SevenTiedAt
namespace Go.Proofs.Qxb6608707aDoor
open Go.ChangeShapes Go.WideShapes Go.ChangeAt Go.WideMaps Go.WideElems Go.RowKit Go.Deep
open Go.ChangeMaps (open_string shut_string)

abbrev laidL : List (String × DataW Unit) := Rows.fnReadsBodiesAllButTheLightChecksRow.laid
abbrev checksName : String := Rows.fnReadsBodiesAllButTheLightChecksRow.named.headD ""
theorem own : ownKnob Tryd.prog.godebug = none := by kernel_rfl
theorem laidOut : laidOutB Tryd.prog = true := by kernel_rfl
theorem gChecks : Tryd.prog.globalNamed checksName = some 0 := by kernel_rfl
theorem tChecks : (Tryd.prog.globals[0]?).map (·.type) = some 28 := by kernel_rfl
theorem law : KeyLaw Tryd.prog 24 := string_law Tryd.underlying24
theorem cells27 : Tryd.prog.cellsOf 27 = 3 := by kernel_rfl
theorem zero27 (w : World) : (zeroValue 27).run Tryd.prog w = .ok (.agg #[.string ByteArray.empty, .bool false, .string ByteArray.empty]) w := by kernel_rfl

/-- The door's own heap meets the condition. -/
theorem door_met (os : Os) (args : Array Value) : laidMetH Tryd.prog laidL ((World.doorLaid Tryd.prog 400 os).forCall (fun _ _ => 0) ⟨#[], args, []⟩).memory :=
  laidMetH_of_parts3 (fuel := 8) (laidMet_of_run' 8 (by kernel_rfl) (by kernel_rfl)) (by kernel_rfl) (by kernel_rfl)

/-- An element of the listed map: a struct of a string, a bool and a string. -/
theorem elemAt27 {H : Type} {enc : TypeId × Value → H} {W : World} {base : Nat} {sp : Nat → Bool} {held : Bool} {n : Nat} {v : Value} {z : DataW H × List MemPlace} (h : elemAt enc Tryd.prog W base sp held n 27 v = some z) :
    ∃ (x y : ByteArray) (b : Bool), v = .agg #[.string x, .bool b, .string y] ∧ z.1 = .agg [.lit (.string x.data.toList), .lit (.bool b), .lit (.string y.data.toList)] := by
  have c26 : Tryd.prog.cellsOf 26 = 1 := by kernel_rfl
  have c4 : Tryd.prog.cellsOf 4 = 1 := by kernel_rfl
  have c9 : Tryd.prog.cellsOf 9 = 1 := by kernel_rfl
  unfold elemAt at h
  split at h
  · rename_i hf
    obtain ⟨y0, y1, y2, m, rfl, hl, g0, g1, g2⟩ := trod_struct3 Tryd.underlying27 h
    obtain ⟨x, e0, rfl, _⟩ := DataW.trod_string Tryd.underlying26 g0
    obtain ⟨b, e1, rfl⟩ := DataW.trod_bool Tryd.underlying4 g1
    obtain ⟨y, e2, rfl, _⟩ := DataW.trod_string Tryd.underlying9 g2
    cases v <;> simp [Value.formed, Tryd.underlying27] at hf
    rename_i cs
    obtain ⟨l⟩ := cs
    rw [cells27] at hl
    simp [Value.cells] at hl e0 e1 e2
    match l, hl with
    | [x0, x1, x2], _ =>
      simp [c26, c4, c9] at e0 e1 e2
      subst e0 e1 e2
      exact ⟨x, y, b, rfl, rfl⟩
  · cases h

/-- The datum's answer at a key, as a plain table. -/
theorem at_laid (s : ByteArray) : (∃ x y, (Rows.laid_example_com_carryall_carryall_internal_download_checks (H := Unit)).atKey (.string s.data.toList) .nil = .agg [.lit (.string x), .lit (.bool (rb s)), .lit (.string y)]) ∨
    ((Rows.laid_example_com_carryall_carryall_internal_download_checks (H := Unit)).atKey (.string s.data.toList) .nil = .nil ∧ rb s = false) := by
  by_cases h0 : s = { data := #[48] }
  · subst h0; exact .inl ⟨_, _, rfl⟩
  by_cases h1 : s = { data := #[49] }
  · subst h1; exact .inl ⟨_, _, rfl⟩
  by_cases h2 : s = { data := #[50] }
  · subst h2; exact .inl ⟨_, _, rfl⟩
  by_cases h3 : s = { data := #[51] }
  · subst h3; exact .inl ⟨_, _, rfl⟩
  by_cases h4 : s = { data := #[52] }
  · subst h4; exact .inl ⟨_, _, rfl⟩
  by_cases h5 : s = { data := #[53] }
  · subst h5; exact .inl ⟨_, _, rfl⟩
  by_cases h6 : s = { data := #[54] }
  · subst h6; exact .inl ⟨_, _, rfl⟩
  by_cases h7 : s = { data := #[55] }
  · subst h7; exact .inl ⟨_, _, rfl⟩
  refine .inr ⟨?_, ?_⟩
  · have ne : ∀ c : UInt8, s ≠ { data := #[c] } → ([c] = s.data.toList) = False := fun c h => by
      rw [eq_iff_iff, iff_false]
      intro e
      apply h
      obtain ⟨⟨l⟩⟩ := s
      simp at e
      rw [← e]
    simp [Rows.laid_example_com_carryall_carryall_internal_download_checks, DataW.atKey, Lit.sameKey, ne _ h0, ne _ h1, ne _ h2, ne _ h3, ne _ h4, ne _ h5, ne _ h6, ne _ h7]
  · simp [rb, h0, h2, h4, h5, h7]

/-- WHAT THE CONDITION GIVES THE WALKS: the look-ups, in every later world. -/
theorem of_laid {W : World} (h : laidMetH Tryd.prog laidL W) : ∃ bm, ∀ w', Below W.heap.size W w' → Looks bm w' := by
  rw [MakeChecks.laidMetH_plain _ _ _ (by kernel_rfl)] at h
  obtain ⟨ps, ⟨g0, t0, cs0, f0, p0, q0, hg0, ht0, hv0, hd0, _, _⟩, _, _⟩ := h
  obtain rfl := Option.some.inj (gChecks.symm.trans hg0)
  obtain rfl := Option.some.inj (tChecks.symm.trans ht0)
  rcases open_map Tryd.underlying28 hd0 with ⟨_, hx⟩ | ⟨bm, es, clock, m, rfl, hcs, hb, _, F, hx⟩
  · simp [Rows.laid_example_com_carryall_carryall_internal_download_checks] at hx
  simp only [Prod.mk.injEq] at hx
  have hcell : W.cell? ⟨0, 0, none⟩ = some (.map (some bm)) := by
    have := World.var?_cell hg0 hv0 0
    rw [Array.eq_one_of_toList hcs] at this
    simpa using this
  have hbm : bm < W.heap.size := (Array.getElem?_eq_some_iff.1 hb).1
  have h0 : 0 < W.heap.size := by omega
  refine ⟨bm, fun w' hB => ⟨(hB.cell (p := ⟨0, 0, none⟩) h0).trans hcell, fun s hs => ?_⟩⟩
  have hb' : w'.heap[bm]? = some (.map es clock) := (hB.block bm hbm).trans hb
  rcases fit_lookup (w := w') law Tryd.underlying28 (zero27 w') hb' F (keyOf_string_mk (s := s) Tryd.underlying24 hs) with ⟨hrun, hat⟩ | ⟨v, y, hrun, hRv, hat, _⟩
  · have e := hat .nil
    rw [← hx.1] at e
    rcases at_laid s with ⟨x, y, e2⟩ | ⟨_, hr⟩
    · rw [e2] at e; cases e
    · rw [hr]; exact ⟨_, _, hrun⟩
  · obtain ⟨x, z, b, rfl, hy⟩ := elemAt27 hRv
    have e := hat .nil
    rw [← hx.1] at e
    rcases at_laid s with ⟨x', y', e2⟩ | ⟨e2, _⟩
    · rw [e2, hy] at e
      simp only [DataW.agg.injEq, List.cons.injEq, DataW.lit.injEq, Lit.bool.injEq] at e
      rw [e.2.1]
      exact ⟨_, _, hrun⟩
    · rw [e2, hy] at e; cases e

/-- THE WALK, of every string. -/
theorem walk (bm : Nat) (s : ByteArray) (w : World) (hl : ∀ w', Below w.heap.size w w' → Looks bm w') :
    Calls Tryd.prog 3 #[.string s] w fun e w' => e = .returned (.bool true) ∧ Below w.heap.size w w' := by
  have hw := hl w (Below.refl _ _)
  have ha : ∀ o, Looks bm (w.alloc o) := fun o => hl _ ((Below.refl _ _).alloc (Nat.le_refl _) o)
  by_cases hlong : 1048576 < s.size
  · exact walk_long s hlong w
  by_cases h1 : s.size = 1
  · obtain ⟨⟨l⟩⟩ := s
    match l, h1 with
    | [c], _ =>
      by_cases hm : c.toNat < 48 ∨ 55 < c.toNat
      · refine walk_no bm _ (by show 1 ≤ 1048576; omega) w hw ?_ (isMode_one c hm)
        unfold rb
        have ne : ∀ d : UInt8, 48 ≤ d.toNat → d.toNat ≤ 55 → decide (({ data := { toList := [c] } } : ByteArray) = { data := #[d] }) = false := fun d h1 h2 => by
          rw [decide_eq_false_iff_not]
          intro e
          simp at e
          subst e
          omega
        rw [ne 48 (by decide) (by decide), ne 50 (by decide) (by decide), ne 52 (by decide) (by decide), ne 53 (by decide) (by decide), ne 55 (by decide) (by decide)]
        rfl
      · have hc : c = 48 ∨ c = 49 ∨ c = 50 ∨ c = 51 ∨ c = 52 ∨ c = 53 ∨ c = 54 ∨ c = 55 := by
          simp only [← UInt8.toNat_inj]
          simp
          omega
        rcases hc with rfl | rfl | rfl | rfl | rfl | rfl | rfl | rfl
        · exact walk_48 bm w hw
        · exact walk_49 bm w hw ha
        · exact walk_50 bm w hw ha
        · exact walk_51 bm w hw ha
        · exact walk_52 bm w hw ha
        · exact walk_53 bm w hw
        · exact walk_54 bm w hw ha
        · exact walk_55 bm w hw ha
  · exact walk_no bm s (by omega) w hw (rb_no s h1) (isMode_no s h1)

set_option maxRecDepth 100000 in
theorem lifted (os : Os) (started : os.Started) (H : Type) (enc : TypeId × Value → H) :
    ReturnsInHanded {} Tryd.checked os 3 .any (fun w args => (Rows.fnReadsBodiesAllButTheLightChecksSpec.pre enc Tryd.prog Tryd.f3 [] false w args ∧ laidMetH Tryd.prog laidL w) ∧ sizedMet enc Tryd.prog Tryd.f3 (OpenSpec.ofChange Rows.fnReadsBodiesAllButTheLightChecksSpec) false w args)
      (Rows.fnReadsBodiesAllButTheLightChecksSpec.post enc Tryd.prog Tryd.f3 false true false false) := by
  refine returnsInHanded_of_change_and (C := Tryd.checked) (X := fun w _ => laidMetH Tryd.prog laidL w) (fun _ _ _ hh h => h.of_heap hh) own started (by kernel_rfl) Tryd.func3
    (ChangeSpec.witness_shaped (enc := enc) (C := Tryd.checked) (os := os) (X := fun w _ => laidMetH Tryd.prog laidL w) false (World.doorLaid Tryd.prog 400 os) #[.string ByteArray.empty] 8 rfl (World.shaped_of_RefB (by kernel_rfl) (by kernel_rfl)) (by kernel_rfl) (by kernel_rfl) (by kernel_rfl) (door_met os _)) ?_
  intro W base args ds gs before hval0 hW _ _ hL _
  have hval : ∀ (j : Nat) t v, Tryd.f3.params[j]? = some t → args[j]? = some v → Value.okWide Tryd.prog W .any base t v := hval0
  have hW' := hW
  obtain ⟨p, q, hA0, hV, rfl, hfz, hnd⟩ := hW
  have hA : DataW.TrodAll enc Tryd.prog W 0 (fun _ => true) true Tryd.f3.params.toList args.toList ds p := hA0
  rw [Tryd.params3] at hA hval
  obtain ⟨v0, d0, rfl, rfl, h0⟩ := trodAll_one hA
  obtain ⟨s, rfl, rfl, rfl, hs⟩ := open_string Tryd.underlying9 (hval 0 9 v0 rfl rfl) h0
  obtain ⟨bm, hlk⟩ := of_laid hL
  clear hA0 hval0
  refine (walk bm s W hlk).mono fun e W' ⟨he, hb⟩ => ?_
  subst he
  obtain ⟨g0, t0, cs0, f0, dg, pg, rfl, hg1, hg2, hg3, hg4, hpq⟩ := trodVars_one hV
  exact ⟨_, rfl, _, _, _, [], [], q, hW', trodAll_mk1 (shut_bool Tryd.underlying4 _), trodAll_mk1 (shut_string Tryd.underlying9 hs), Below.trodVars laidOut hb (by kernel_rfl) hV, hb.frame _, fun h => by cases h⟩

theorem row_holds : Rows.FnReadsBodiesAllButTheLightChecksSaid :=
  OpenClaim.holds_of_wide 3 Tryd.f3 rfl rfl rfl rfl rfl rfl rfl ⟨rfl, rfl, rfl, rfl, rfl⟩ rfl rfl rfl rfl rfl (by kernel_rfl) Tryd.func3 (by kernel_rfl)
    (of_decide_eq_true (by kernel_rfl)) (by unfold Func.isWrapper; first | (rw [if_pos (by decide +kernel)]; kernel_rfl) | (rw [if_neg (by decide +kernel)]; exact ⟨rfl, rfl⟩))
    (fun os started H enc _ => lifted os started H enc)

theorem fnReadsBodies_proved : Rows.FnReadsBodiesAllButTheLightChecksCardSaid :=
  Claim7.holds_tied_plain_at .later [] [.mapped] true (true, "afd227b293d46004603b1b2eeb15010540563d4466163ef7ad7bf5097f46a67f") false
    row_holds (fun _ h => by cases h) (by kernel_rfl) (fun _ h => by cases h) fnReadsBodiesAllButTheLightChecks_row_tie rfl ⟨rfl, rfl⟩ (by kernel_rfl) rfl
    (fun f fn hf hfn => by
      obtain rfl : f = 3 := Option.some.inj ((show Tryd.prog.funcNamed Rows.fnReadsBodiesAllButTheLightChecksRow.func = some 3 by kernel_rfl).symm.trans hf) |>.symm
      obtain rfl : fn = Tryd.f3 := (Option.some.inj (Tryd.func3.symm.trans hfn)).symm
      exact ⟨by kernel_rfl, fun j t ht => by
        rw [Tryd.params3] at ht
        have hm : t ∈ [9] := by simpa using Array.mem_of_getElem? ht
        have hall : ([9].all fun u => !Tryd.prog.wantsStandIn u) = true := by kernel_rfl
        exact (show Tryd.prog.wantsStandIn t = false by simpa using List.all_eq_true.1 hall t hm)⟩)
    (by kernel_rfl)
#print axioms fnReadsBodies_proved
end Go.Proofs.Qxb6608707aDoor
