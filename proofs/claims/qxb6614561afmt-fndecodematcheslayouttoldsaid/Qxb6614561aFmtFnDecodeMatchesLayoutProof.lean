/-
  THE TOLD CARD OF FnDecodeMatchesLayout, proved: for every slice of bytes, nil too, the law returns true.
-/
import Derived.Test.Qxb6614561aFmtMain
import Derived.Test.Qxb6614561aFmtCards
import Derived.ProofKit
import Derived.Stop.JoinedAt
import Derived.Stop.JoinedTold
import Derived.SevenToldRow
namespace Go.Proofs.Qxb6614561aFmt
open Go.ChangeShapes Go.WideShapes Go.ChangeAt Go.RowKit Go.Kit
open Go.Extern.Stop Go.Stop Go.Extern

theorem ownK : ownKnob Tryf.prog.godebug = none := by kernel_rfl
theorem laidOutK : laidOutB Tryf.prog = true := by kernel_rfl
theorem laidOutP : laidOutB Tryf.pinned.checked.prog = true := by kernel_rfl
theorem cells5 : Tryf.prog.cellsOf 5 = 1 := by kernel_rfl
theorem stopsK : Tryf.pinned.checked.prog.stops = ["fmt.errorf"] := by kernel_rfl
theorem stopKnobsK : Tryf.pinned.checked.prog.stopKnobs = [] := by kernel_rfl
theorem quietK (os : Os) : Stop.quiet Tryf.pinned.checked.prog os := by
  intro k hk
  rw [stopKnobsK] at hk
  cases hk

/-- The argument, nil or not: a list of bytes and the cells that hold them. -/
theorem arg_bytes {H : Type} {enc : TypeId × Value → H} {W : World} {a0 : Option Addr} {len cap : Nat} {d0 : DataW H} {p : List MemPlace} (h0 : DataW.Trod enc Tryf.prog W 0 (fun _ => true) true 22 (.slice a0 len cap) d0 p) :
    ∃ bs : List UInt8, bs.length = len ∧ (a0 = none → len = 0) ∧ ∀ ad, a0 = some ad → ∀ j (h : j < bs.length), W.cell? (ad.add j) = some (.int .u8 (bs[j].toNat : Int)) := by
  obtain ⟨fuel, hf⟩ := h0
  rcases open_ints Tryf.underlying22 Tryf.underlying5 cells5 hf with ⟨hcs, _⟩ | ⟨a, len', cap', zs, hcs, _, hl, _, hz, _, hcell, hwz⟩
  · simp [Value.cells] at hcs
    obtain ⟨rfl, rfl, rfl⟩ := hcs
    exact ⟨[], rfl, fun _ => rfl, fun _ h => by cases h⟩
  · simp [Value.cells] at hcs
    obtain ⟨rfl, rfl, rfl⟩ := hcs
    simp only [if_true] at hz
    refine ⟨(zs.take len).map (fun x => UInt8.ofNat x.toNat), (by simp; omega), (fun h => by cases h), fun ad had j hj => ?_⟩
    obtain rfl := Option.some.inj had
    have hj' : j < len := by simp at hj; omega
    have hjz : j < zs.length := by omega
    rw [hcell j hjz]
    have e1 : zs.getD j 0 = zs[j] := by simp [List.getD, hjz]
    have hw := hwz zs[j] (List.getElem_mem hjz)
    have hbd : 0 ≤ zs[j] ∧ zs[j] ≤ 255 := by
      simpa [Lit.wf, IntKind.min, IntKind.max, IntKind.signed, IntKind.bits] using hw
    have e2 : (((zs.take len).map (fun x => UInt8.ofNat x.toNat))[j]).toNat = zs[j].toNat := by
      rw [List.getElem_map, List.getElem_take, UInt8.toNat_ofNat']
      omega
    rw [e1, e2, Int.toNat_of_nonneg hbd.1]

abbrev spec : OpenSpec := OpenSpec.ofChange Rows.fnDecodeMatchesLayoutSpec

set_option maxRecDepth 100000 in
set_option maxHeartbeats 1600000 in
theorem lifted (os : Os) (started : os.Started) (H : Type) (enc : TypeId × Value → H) :
    ReturnsInTold none {} Tryf.checked os 3 .any Input.okWide (spec.preRow enc Tryf.prog Tryf.f3 [] false []) (fun F => (spec.at F).post enc Tryf.prog Tryf.f3 false true false false) (aloneAtReturn Tryf.prog) nothingAlways := by
  refine returnsInTold_of_row (C := Tryf.checked) (s := spec) (by kernel_rfl) ownK started (by kernel_rfl) Tryf.func3
    (OpenSpec.witness_stopped (enc := enc) (C := Tryf.checked) false ⟨#[], #[.slice none 0 0], []⟩ 8 (by kernel_rfl) (by kernel_rfl) (by kernel_rfl) (by kernel_rfl)) ?_
  intro F W base args ds gs before _ hF hval0 hW _ _ _ _ _
  have hval : ∀ (j : Nat) t v, Tryf.f3.params[j]? = some t → args[j]? = some v → Value.okWide Tryf.prog W .any base t v := hval0
  have hW' := hW
  obtain ⟨p, q, hA0, hV, rfl, hfz, hnd⟩ := hW
  have hA : DataW.TrodAll enc Tryf.prog W 0 (fun _ => true) true Tryf.f3.params.toList args.toList ds p := hA0
  rw [Tryf.params3] at hA hval
  obtain ⟨v0, d0, rfl, rfl, h0⟩ := trodAll_one hA
  obtain ⟨rfl, rfl⟩ := trodVars_none hV
  obtain ⟨a0, len0, cap0, rfl⟩ := okWide_slice Tryf.underlying22 (hval 0 22 v0 rfl rfl)
  clear hA0 hval0
  simp only [List.append_nil] at hW'
  have hlt : ∀ x ∈ p, x.block < W.heap.size := fun x hx => by simpa using hW'.lt x hx
  obtain ⟨bs, hlen, hnil, hcells⟩ := arg_bytes h0
  refine (main_any F.told a0 len0 cap0 bs hlen W hF hnil hcells).mono fun e W' ⟨he, hnx⟩ => ?_
  subst he
  have harg := Below.trod laidOutK (by kernel_rfl) (of_decide_eq_true (by kernel_rfl)) h0 hnx hlt
  exact ⟨_, rfl, _, _, _, [], p, [], hW', trodAll_mk1 (shut_bool Tryf.underlying4 _), trodAll_mk1 harg, rfl, hnx.frame _, fun h => by cases h⟩

theorem fnDecodeMatchesLayoutTold.proved : Rows.FnDecodeMatchesLayoutToldSaid :=
  Claim7.holds_of_told_any 3 Tryf.f3 "fmt.errorf" [] [] _ _ _ (by kernel_rfl) rfl rfl rfl laidOutP (by kernel_rfl) rfl ⟨rfl, rfl, rfl, rfl, rfl, rfl, rfl⟩ rfl rfl (by kernel_rfl) (by kernel_rfl) Tryf.func3 (by kernel_rfl)
    (of_decide_eq_true (by kernel_rfl)) (of_decide_eq_true (by kernel_rfl)) stopsK.symm rfl stopKnobsK.symm (by kernel_rfl)
    (by kernel_rfl) (by kernel_rfl) (by kernel_rfl) (by kernel_rfl) (by kernel_rfl) (by kernel_rfl) (by kernel_rfl) (by kernel_rfl) (by kernel_rfl) rfl (by kernel_rfl) rfl rfl
    rfl rfl
    rfl (by kernel_rfl) (by kernel_rfl) (by kernel_rfl) (by decide) (by kernel_rfl)
    (OpenClaim.moreEntering_of (by kernel_rfl) (by kernel_rfl) (by kernel_rfl) (by kernel_rfl) (by kernel_rfl) (by kernel_rfl) (by kernel_rfl) (by kernel_rfl) (by kernel_rfl) (by kernel_rfl))
    ⟨_, WideRow.started_initial, quietK _⟩
    (fun os started _ H enc _ => lifted os started H enc)
end Go.Proofs.Qxb6614561aFmt
