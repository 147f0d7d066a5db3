/-
  THE STATEMENT: for every data, every row of warnings and every k the law returns true, and the arguments read as they did.
-/
import Derived.Test.Qxb6614456aRows
import Derived.Test.Qxb6614456aMain
import Derived.ProofKit
import Derived.OpenShut
import Derived.ShutString
import Derived.Deep.Slices
namespace Go.Proofs.Qxb6614456a.fnLocatedWarningsIgnoreRecordingOrder
open Go.ChangeShapes Go.WideShapes Go.ChangeAt Go.RowKit
open Go.ChangeMaps (open_string shut_string)
set_option linter.unusedVariables false

theorem own : ownKnob Try.prog.godebug = none := by kernel_rfl
theorem laidOutK : laidOutB Try.prog = true := by kernel_rfl
theorem cells5 : Try.prog.cellsOf 5 = 1 := by kernel_rfl
theorem cells50 : Try.prog.cellsOf 50 = 6 := by kernel_rfl
theorem cells3 : Try.prog.cellsOf 3 = 1 := by kernel_rfl
theorem cells4 : Try.prog.cellsOf 4 = 1 := by kernel_rfl
theorem cells9 : Try.prog.cellsOf 9 = 1 := by kernel_rfl

set_option maxRecDepth 100000 in
/-- A slice that comes in: nil, or a place in a block that is there. -/
theorem slice_in {W : World} {base : Nat} {t e : TypeId} {v : Value} (ht : Try.prog.underlying t = some (.slice e)) (h : Value.okWide Try.prog W .any base t v) :
    v = .slice none 0 0 ∨ ∃ g q len cap, v = .slice (some ⟨g, q, none⟩) len cap ∧ len ≤ cap ∧ g < W.heap.size := by
  obtain ⟨a, len, cap, rfl⟩ := okWide_slice ht h
  simp only [Value.okWide, ht, Cell.okWide] at h
  cases a with
  | none =>
    left
    cases len with
    | zero => cases cap with
      | zero => rfl
      | succ c => simp [Cell.ok, ht] at h
    | succ l => simp [Cell.ok, ht] at h
  | some a =>
    right
    simp only [Cell.ok, ht, World.has] at h
    obtain ⟨h1, _, _, h2, row, cells, h3, _⟩ := h
    obtain ⟨g, q, sp⟩ := a
    simp only at h2 h3
    subst h2
    refine ⟨g, q, len, cap, rfl, h1, ?_⟩
    rcases Nat.lt_or_ge g W.heap.size with hl | hl
    · exact hl
    · simp [World.shape?, Array.getElem?_eq_none hl] at h3

theorem arg_bytes {H : Type} {enc : TypeId × Value → H} {W : World} {a0 : Option Addr} {len cap : Nat} {d0 : DataW H} {p : List MemPlace} (h0 : DataW.Trod enc Try.prog W 0 (fun _ => true) true 25 (.slice a0 len cap) d0 p) (ha : ∀ a, a0 = some a → ∃ g q, a = ⟨g, q, none⟩ ∧ g < W.heap.size) :
    ∃ bs : List UInt8, bs.length = len ∧ BsAt W a0 bs := by
  obtain ⟨fuel, hf⟩ := h0
  rcases open_ints Try.underlying25 Try.underlying5 cells5 hf with ⟨hcs, _⟩ | ⟨a, len', cap', zs, hcs, _, hl, _, hz, _, hcell, hwz⟩
  · simp [Value.cells] at hcs
    obtain ⟨rfl, rfl, rfl⟩ := hcs
    exact ⟨[], rfl, fun j hj => by simp at hj⟩
  · simp [Value.cells] at hcs
    obtain ⟨rfl, rfl, rfl⟩ := hcs
    simp only [if_true] at hz
    obtain ⟨g, q, rfl, hg⟩ := ha _ rfl
    refine ⟨(zs.take len).map (fun x => UInt8.ofNat x.toNat), (by simp; omega), fun _ _ => ⟨g, q, rfl, hg, fun j hj => ?_⟩⟩
    have hj' : j < len := by simp at hj; omega
    have hjz : j < zs.length := by omega
    have hc := hcell j hjz
    rw [add_plain] at hc
    rw [hc]
    have e1 : zs.getD j 0 = zs[j] := by simp [List.getD, hjz]
    have hw := hwz zs[j] (List.getElem_mem hjz)
    have hbd : 0 ≤ zs[j] ∧ zs[j] ≤ 255 := by
      simpa [Lit.wf, IntKind.min, IntKind.max, IntKind.signed, IntKind.bits] using hw
    have e2 : (((zs.take len).map (fun x => UInt8.ofNat x.toNat))[j]).toNat = zs[j].toNat := by
      rw [List.getElem_map, List.getElem_take, UInt8.toNat_ofNat']
      omega
    rw [e1, e2, Int.toNat_of_nonneg hbd.1]

set_option maxRecDepth 100000 in
theorem arg_ws {H : Type} {enc : TypeId × Value → H} {W : World} {g q len cap : Nat} {d0 : DataW H} {p : List MemPlace} (h0 : DataW.Trod enc Try.prog W 0 (fun _ => true) true 26 (.slice (some ⟨g, q, none⟩) len cap) d0 p) (hg : g < W.heap.size) :
    ∃ ws : List Wn, ws.length = len ∧ WsAt W (some ⟨g, q, none⟩) ws := by
  obtain ⟨fuel, hf⟩ := h0
  rcases Deep.open_slice Try.underlying26 hf with ⟨hcs, _⟩ | ⟨a, len', cap', m, n, D, Pl, hcs, _, hl, _, hmm, _, hx⟩
  · simp [Value.cells] at hcs
  · simp [Value.cells] at hcs
    obtain ⟨rfl, rfl, rfl⟩ := hcs
    simp only [if_true] at hmm
    have each : ∀ i, i < m → ∃ x : Wn, At6 W g (q + i * 6) x := fun i hi => by
      obtain ⟨cs', h1, h2⟩ := hx i hi
      rw [cells50, add_plain] at h1
      obtain ⟨_, hlen, hcell⟩ := World.cells?_some h1
      obtain ⟨xs, k, _, _, _, hxl, hff⟩ := DataW.trod_struct Try.underlying50 h2
      match xs, hxl, cs', hlen with
      | [y0, y1, y2, y3, y4, y5], _, [v0, v1, v2, v3, v4, v5], _ =>
        have g0 := hff 0 _ rfl
        have g1 := hff 1 _ rfl
        have g2 := hff 2 _ rfl
        have g3 := hff 3 _ rfl
        have g4 := hff 4 _ rfl
        have g5 := hff 5 _ rfl
        simp [cells3, cells4, cells9] at g0 g1 g2 g3 g4 g5
        obtain ⟨z0, e0, _⟩ := DataW.trod_int Try.underlying3 g0
        obtain ⟨z1, e1, _⟩ := DataW.trod_int Try.underlying3 g1
        obtain ⟨z2, e2, _⟩ := DataW.trod_int Try.underlying3 g2
        obtain ⟨z3, e3, _⟩ := DataW.trod_string Try.underlying9 g3
        obtain ⟨z4, e4, _⟩ := DataW.trod_bool Try.underlying4 g4
        obtain ⟨z5, e5, _⟩ := DataW.trod_string Try.underlying9 g5
        simp only [List.cons.injEq, and_true] at e0 e1 e2 e3 e4 e5
        subst e0 e1 e2 e3 e4 e5
        have c0 := hcell 0 (by omega)
        have c1 := hcell 1 (by omega)
        have c2 := hcell 2 (by omega)
        have c3 := hcell 3 (by omega)
        have c4 := hcell 4 (by omega)
        have c5 := hcell 5 (by omega)
        rw [add_plain] at c0 c1 c2 c3 c4 c5
        exact ⟨⟨z0, z1, z2, z3, z4, z5⟩, by simpa using c0, by simpa using c1, by simpa using c2, by simpa using c3, by simpa using c4, by simpa using c5⟩
    obtain ⟨f, hf6⟩ := @Deep.choose_lt Wn ⟨⟨0, 0, 0, default, false, default⟩⟩ m _ each
    refine ⟨(List.range len).map f, by simp, fun j hj => ⟨g, q, rfl, hg, fun i hi => ?_⟩⟩
    have hi' : i < len := by simpa using hi
    simp only [List.getElem_map, List.getElem_range]
    exact hf6 i (by omega)

theorem walk (a0 : Option Addr) (n0 c0 : Nat) (bs : List UInt8) (v1 : Value) (k : Int) (W : World) (hn0 : bs.length = n0) (hbs : BsAt W a0 bs) (hb0 : ∀ g q, a0 = some ⟨g, q, none⟩ → g < W.heap.size)
    (h1 : v1 = .slice none 0 0 ∨ ∃ g q n c ws, v1 = .slice (some ⟨g, q, none⟩) n c ∧ n ≤ c ∧ g < W.heap.size ∧ ws.length = n ∧ WsAt W (some ⟨g, q, none⟩) ws) :
    Calls Try.prog 5 #[.slice a0 n0 c0, v1, .int .i64 k] W fun e w' => e = .returned (.bool true) ∧ Below W.heap.size W w' := by
  rcases h1 with rfl | ⟨g, q, n, c, ws, rfl, hnc, hg, hn, hw⟩
  · exact main_none a0 n0 c0 bs k W hn0 hbs hb0
  · exact main_some a0 n0 c0 bs g q n c ws k W hn0 hbs hb0 hn hnc hg hw

set_option maxRecDepth 100000 in
set_option maxHeartbeats 1600000 in
theorem lifted (os : Os) (started : os.Started) (H : Type) (enc : TypeId × Value → H) :
    ReturnsInHanded {} Try.checked os 5 .any (Rows.fnLocatedWarningsIgnoreRecordingOrderSpec.pre6 enc Try.prog Try.f5 Rows.fnLocatedWarningsIgnoreRecordingOrderRow.domain false) (Rows.fnLocatedWarningsIgnoreRecordingOrderSpec.post enc Try.prog Try.f5 false true false false) := by
  refine returnsInHanded_of_change (C := Try.checked) own started (by kernel_rfl) Try.func5
    (ChangeSpec.witness6 (enc := enc) (C := Try.checked) false ⟨#[], #[.slice none 0 0, .slice none 0 0, .int .i64 0], []⟩ 8 (by kernel_rfl) (by kernel_rfl) (by kernel_rfl) (by kernel_rfl)) ?_
  intro W base args ds gs before hval0 hW hcnd _
  have hval : ∀ (j : Nat) t v, Try.f5.params[j]? = some t → args[j]? = some v → Value.okWide Try.prog W .any base t v := hval0
  have hW' := hW
  obtain ⟨p, q, hA0, hV, rfl, hfz, hnd⟩ := hW
  have hA : DataW.TrodAll enc Try.prog W 0 (fun _ => true) true Try.f5.params.toList args.toList ds p := hA0
  rw [Try.params5] at hA hval
  obtain ⟨v0, vs0, d0, ds0, p0, q0, hargs, rfl, rfl, h0, r0⟩ := trodAll_cons hA
  obtain ⟨v1, vs1, d1, ds1, p1, q1, rfl, rfl, rfl, h1, r1⟩ := trodAll_cons r0
  obtain ⟨v2, vs2, d2, ds2, p2, q2, rfl, rfl, rfl, h2, r2⟩ := trodAll_cons r1
  obtain ⟨rfl, rfl, rfl⟩ := trodAll_nil r2
  obtain rfl : args = #[v0, v1, v2] := by cases args; simp_all
  obtain ⟨rfl, rfl⟩ := trodVars_none hV
  have s0 := slice_in Try.underlying25 (hval 0 25 v0 rfl rfl)
  have s1 := slice_in Try.underlying26 (hval 1 26 v1 rfl rfl)
  obtain ⟨a2, rfl, rfl, rfl, w2⟩ := open_int Try.underlying3 (hval 2 3 v2 rfl rfl) h2
  clear hA0 hval0
  simp only [List.append_nil] at hW'
  have hlt : ∀ x ∈ p0 ++ p1, x.block < W.heap.size := fun x hx => by simpa using hW'.lt x (by simpa using hx)
  obtain ⟨a0, n0, c0, rfl, ha0⟩ : ∃ a0 n0 c0, v0 = .slice a0 n0 c0 ∧ ∀ a, a0 = some a → ∃ g q, a = ⟨g, q, none⟩ ∧ g < W.heap.size := by
    rcases s0 with rfl | ⟨g, q, len, cap, rfl, _, hg⟩
    · exact ⟨none, 0, 0, rfl, fun a h => by cases h⟩
    · exact ⟨_, len, cap, rfl, fun a h => ⟨g, q, (Option.some.inj h).symm, hg⟩⟩
  obtain ⟨bs, hlen, hbs⟩ := arg_bytes h0 ha0
  have hs1 : v1 = .slice none 0 0 ∨ ∃ g q n c ws, v1 = .slice (some ⟨g, q, none⟩) n c ∧ n ≤ c ∧ g < W.heap.size ∧ ws.length = n ∧ WsAt W (some ⟨g, q, none⟩) ws := by
    rcases s1 with rfl | ⟨g, q, len, cap, rfl, hlc, hg⟩
    · exact .inl rfl
    · obtain ⟨ws, hl, hw⟩ := arg_ws h1 hg
      exact .inr ⟨g, q, len, cap, ws, rfl, hlc, hg, hl, hw⟩
  refine (walk a0 n0 c0 bs v1 a2 W hlen hbs (fun g q h => by obtain ⟨g', q', e, hg⟩ := ha0 _ h; cases e; exact hg) hs1).mono fun e W' ⟨he, hnx⟩ => ?_
  subst he
  have r0 := Below.trod laidOutK (by kernel_rfl) (of_decide_eq_true (by kernel_rfl)) h0 hnx (fun x hx => hlt x (by simp [hx]))
  have r1 := Below.trod laidOutK (by kernel_rfl) (of_decide_eq_true (by kernel_rfl)) h1 hnx (fun x hx => hlt x (by simp [hx]))
  exact ⟨_, rfl, _, _, _, [], _, [], hW', trodAll_cons_mk (shut_bool Try.underlying4 _) trodAll_mk0, trodAll_cons_mk r0 (trodAll_cons_mk r1 (trodAll_cons_mk (shut_int Try.underlying3 w2) trodAll_mk0)), rfl, hnx.frame _, fun h => by cases h⟩

theorem proved : Rows.FnLocatedWarningsIgnoreRecordingOrderSaid :=
  OpenClaim.holds_of_wide 5 Try.f5 rfl rfl rfl rfl rfl rfl rfl ⟨rfl, rfl, rfl, rfl, rfl⟩ rfl rfl rfl rfl rfl (by kernel_rfl) Try.func5 (by kernel_rfl)
    (of_decide_eq_true (by kernel_rfl)) (by unfold Func.isWrapper; first | (rw [if_pos (by decide +kernel)]; kernel_rfl) | (rw [if_neg (by decide +kernel)]; exact ⟨rfl, rfl⟩))
    (fun os started H enc _ => lifted os started H enc)
end Go.Proofs.Qxb6614456a.fnLocatedWarningsIgnoreRecordingOrder
