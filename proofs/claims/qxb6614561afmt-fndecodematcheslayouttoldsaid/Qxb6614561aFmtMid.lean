/-
  THE WALK of FnDecodeMatchesLayout: the two readings side by side.
-/
import Derived.Test.Qxb6614561aFmtTail
namespace Go.Proofs.Qxb6614561aFmt
open Go Go.RowKit Go.Extern.Stop Go.Stop Go.Extern
set_option linter.unusedVariables false

/-- The head is read in one way only, wherever the layout may still fit. -/
theorem head_unique {bs : List UInt8} {f o f' o' : Int} {p p' : Nat} (h : HeadRel bs f o p) (h' : HeadRel bs f' o' p') : (Bad bs f o p ∧ Bad bs f' o' p') ∨ (f = f' ∧ o = o' ∧ p = p') := by
  obtain ⟨_, _, _, _, h⟩ := h
  obtain ⟨_, _, _, _, h'⟩ := h'
  rcases h with ⟨hl, rfl⟩ | ⟨hl, hf, h⟩
  · rcases h' with ⟨_, rfl⟩ | ⟨hl', _⟩
    · exact .inl ⟨.inl (by omega), .inl (by omega)⟩
    · omega
  · rcases h' with ⟨hl', _⟩ | ⟨_, hf', h'⟩
    · omega
    · obtain rfl : f = f' := by rw [hf, hf']
      rcases h with ⟨hz, ho, rfl⟩ | ⟨hz, rfl, ho⟩
      · rcases h' with ⟨_, ho', rfl⟩ | ⟨hz', _⟩
        · exact .inr ⟨rfl, by rw [ho, ho'], rfl⟩
        · exact absurd hz' hz
      · rcases h' with ⟨hz', _⟩ | ⟨_, rfl, ho'⟩
        · exact absurd hz hz'
        · by_cases h2 : 2 ≤ bs.length
          · refine .inr ⟨rfl, ?_, rfl⟩
            rcases ho h2 with ⟨a, b⟩ | ⟨a, b⟩ <;> rcases ho' h2 with ⟨c, d⟩ | ⟨c, d⟩
            · rw [b, d]
            · omega
            · omega
            · rw [b, d]
          · exact .inl ⟨.inl (by omega), .inl (by omega)⟩

theorem sl_cells {wx : World} {g : Nat} {bs : List UInt8} (hb : Bs wx g bs) {P K q : Nat} (h : P + K ≤ bs.length) (hq : 0 < K → q = P) :
    ∀ j (hj : j < ((bs.drop P).take K).length), wx.cell? ⟨g, q + j, none⟩ = some (.int .u8 ((((bs.drop P).take K)[j]).toNat : Int)) := fun j hj => by
  have hl : ((bs.drop P).take K).length = K := by simp; omega
  rw [hl] at hj
  obtain rfl := hq (by omega)
  rw [hb (q + j) (by omega)]
  simp
theorem sl_len {bs : List UInt8} {P K : Nat} (h : P + K ≤ bs.length) : ((bs.drop P).take K).length = K := by simp; omega

set_option maxHeartbeats 4000000 in
set_option maxRecDepth 100000 in
theorem layout_nil (g : Nat) (w : World) : Calls Tryf.prog 6 #[.slice none 0 0] w fun e w' => LayEnd w g [] e w' := by
  go_enter Tryf.func6, Tryf.ntmps6
  go_upto_if 20 with fail
  go_wp2_with fail
  refine ret_region _ 21 _ false _ _ _ w.heap.size (w.heap.size + 1) zeroA zeroA (by omega) (by simp) rfl rfl (cmdR _ _) rfl (cmdC _ _) ⟨_, _, _, _, _, _, _, _, _, _, _, _, _, _, _, _, _, _, _, _, rfl⟩ ?_
  go_step
  go_step
  go_step
  refine ret_post 21 false _ _ _ w.heap.size _ (by omega) (by simp) rfl rfl (cmdR _ _) ⟨_, _, _, _, _, _, _, _, _, _, _, _, _, _, _, _, _, _, _, _, rfl⟩ ?_
  refine ⟨0, 0, 1, _, false, ⟨by omega, by omega, by omega, by omega, .inl ⟨rfl, rfl⟩⟩, rfl, ⟨_, _, _, _, _, _, _, _, _, _, _, _, _, _, _, _, _, _, _, _, rfl⟩, .inl ⟨rfl, .inl (by simp)⟩, ?_⟩
  exact ((((Below.refl _ w).alloc (Nat.le_refl _) _).alloc (by simp) _).drew).trans (Lib.below_setCells_w (Nat.le_refl _) _ _ _)

set_option maxHeartbeats 4000000 in
set_option maxRecDepth 100000 in
theorem main_mid (F : Interp) (w w2 : World) (hF : F.answers w.tape) (n g1 g2 : Nat) (bs : List UInt8) (hn : bs.length = n) (hmax : n ≤ 1048576) (ao1 ao2 : Option Addr) (hB0 : Below w.heap.size w w2)
    (hcase : (ao1 = some ⟨g1, 0, none⟩ ∧ ao2 = some ⟨g2, 0, none⟩ ∧ Bs w2 g1 bs ∧ Bs w2 g2 bs ∧ g1 < w2.heap.size ∧ g2 < w2.heap.size) ∨ (ao1 = none ∧ ao2 = none ∧ bs = [])) (a1 a4 a5 a6 a7 u8 u9 u10 u11 u12 u13 u14 u15 u16 u17 u18 u19 u20 u21 u22 u23 u24 u25 u26 u27 u28 u29 u30 u31 u32 u33 u34 u35 u36 u37 u38 u39 u40 u41 u42 u43 u44 u45 u46 u47 u48 u49 u50 u51 u52 u53 : Value) :
    Code.wp Tryf.prog (dropS 5 (Tryf.f3.body.getD .skip)) (bodyPost Tryf.prog Tryf.f3 fun e w' => e = .returned (.bool true) ∧ Below w.heap.size w w') ⟨#[.slice ao1 n n, a1, .bool false, .slice ao2 n n, a4, a5, a6, a7, u8, u9, u10, u11, u12, u13, u14, u15, u16, u17, u18, u19, u20, u21, u22, u23, u24, u25, u26, u27, u28, u29, u30, u31, u32, u33, u34, u35, u36, u37, u38, u39, u40, u41, u42, u43, u44, u45, u46, u47, u48, u49, u50, u51, u52, u53], []⟩ w2 := by
  have hlay : Calls Tryf.prog 6 #[.slice ao2 n n] w2 fun e w' => LayEnd w2 g2 bs e w' := by
    rcases hcase with ⟨h1, h2, h3, h4, h5, h6⟩ | ⟨h1, h2, h3⟩
    · exact layout_any g2 n bs hn hmax ao2 w2 h6 h4 (.inl h2)
    · subst h3
      obtain rfl : n = 0 := by simpa using hn.symm
      rw [h2]; exact layout_nil g2 w2
  have Hcase : Hid ((ao1 = some ⟨g1, 0, none⟩ ∧ ao2 = some ⟨g2, 0, none⟩ ∧ Bs w2 g1 bs ∧ Bs w2 g2 bs ∧ g1 < w2.heap.size ∧ g2 < w2.heap.size) ∨ (ao1 = none ∧ ao2 = none ∧ bs = [])) := hcase
  have HB0 : Hid (Below w.heap.size w w2) := hB0
  have Hn : Hid (bs.length = n) := hn
  clear hcase hB0 hn
  conv => arg 2; whnf
  go_wp2_with fail
  refine hlay.mono ?_
  rintro e w3 ⟨f, o, p, arrL, ok, hh, rfl, hshL, hres, hb3⟩
  have HL : Hid (HeadRel bs f o p ∧ ((ok = false ∧ Bad bs f o p) ∨ (ok = true ∧ ¬ Bad bs f o p ∧ Fin g2 bs f o p arrL))) := ⟨hh, hres⟩
  have HB3 : Hid (Below w2.heap.size w2 w3) := hb3
  clear hlay hh hres hb3
  have hb3' : Below w3.heap.size w3 (w3.alloc (.cells arrL 30)) := (Below.refl _ _).alloc (Nat.le_refl _) _
  have hsz3 : (w3.alloc (.cells arrL 30)).heap.size = w3.heap.size + 1 := by simp
  have hCL : Cmd (w3.alloc (.cells arrL 30)) w3.heap.size arrL := (MapKept.heap_alloc w3 (.cells arrL 30)).1
  have hb23 : Below w2.heap.size w2 (w3.alloc (.cells arrL 30)) := HB3.out.trans (hb3'.mono HB3.out.size)
  obtain ⟨gd, hgd, hbsd, haod, hgd1⟩ : ∃ gd, gd < (w3.alloc (.cells arrL 30)).heap.size ∧ Bs (w3.alloc (.cells arrL 30)) gd bs ∧ (ao1 = some ⟨gd, 0, none⟩ ∨ (ao1 = none ∧ bs = [])) ∧ (bs ≠ [] → Bs (w3.alloc (.cells arrL 30)) g2 bs ∧ g2 < (w3.alloc (.cells arrL 30)).heap.size) := by
    rcases Hcase.out with ⟨h1, h2, h3, h4, h5, h6⟩ | ⟨h1, h2, h3⟩
    · exact ⟨g1, Nat.lt_of_lt_of_le h5 hb23.size, h3.below hb23 h5, .inl h1, fun _ => ⟨h4.below hb23 h6, Nat.lt_of_lt_of_le h6 hb23.size⟩⟩
    · exact ⟨w3.heap.size, by rw [hsz3]; omega, by subst h3; intro j hj; simp at hj, .inr ⟨h1, h3⟩, fun h => absurd h3 h⟩
  have hdec := decode_any F gd n bs Hn.out hmax ao1 (w3.alloc (.cells arrL 30)) (by rw [hb23.tape, HB0.out.tape]; exact hF) hgd hbsd haod
  have HD : Hid (gd < (w3.alloc (.cells arrL 30)).heap.size ∧ Bs (w3.alloc (.cells arrL 30)) gd bs ∧ (bs ≠ [] → Bs (w3.alloc (.cells arrL 30)) g2 bs ∧ g2 < (w3.alloc (.cells arrL 30)).heap.size)) := ⟨hgd, hbsd, hgd1⟩
  have HCL : Hid (Cmd (w3.alloc (.cells arrL 30)) w3.heap.size arrL) := hCL
  have HB23 : Hid (Below w.heap.size w (w3.alloc (.cells arrL 30))) := HB0.out.trans (hb23.mono HB0.out.size)
  clear hb3' hsz3 hCL hb23 hgd hbsd haod hgd1 Hcase HB0 HB3 hF
  obtain ⟨o1, key1, va1, va2, va3, ob1, ob2, ob3, s10, s11, s12, s13, le1, ttl1, co1, rev1, ol1, fo1, fr1, cl1, rfl⟩ := hshL
  go_wp2_with fail
  refine hdec.mono ?_
  rintro e w4 ⟨arrD, r, rfl, hr, hshD, ⟨f', o', p', hh', hres'⟩, hb4⟩
  have hbx : Below (w3.alloc (.cells (cmdA (.int .u8 o1) (.string key1) (.slice va1 va2 va3) (.slice ob1 ob2 ob3) (.int .u64 s10) (.int .u64 s11) (.int .i64 s12) (.int .i64 s13) (.int .u64 le1) (.int .i64 ttl1) (.bool co1) (.int .u64 rev1) (.int .u64 ol1) (.int .u64 fo1) (.int .u64 fr1) (.int .i64 cl1)) 30)).heap.size (w3.alloc (.cells (cmdA (.int .u8 o1) (.string key1) (.slice va1 va2 va3) (.slice ob1 ob2 ob3) (.int .u64 s10) (.int .u64 s11) (.int .i64 s12) (.int .i64 s13) (.int .u64 le1) (.int .i64 ttl1) (.bool co1) (.int .u64 rev1) (.int .u64 ol1) (.int .u64 fo1) (.int .u64 fr1) (.int .i64 cl1)) 30)) (w4.alloc (.cells arrD 30)) := hb4.trans (((Below.refl _ _).alloc (Nat.le_refl _) _).mono hb4.size)
  have hB : Below w.heap.size w (w4.alloc (.cells arrD 30)) := HB23.out.trans (hbx.mono HB23.out.size)
  have hCL : Cmd (w4.alloc (.cells arrD 30)) w3.heap.size (cmdA (.int .u8 o1) (.string key1) (.slice va1 va2 va3) (.slice ob1 ob2 ob3) (.int .u64 s10) (.int .u64 s11) (.int .i64 s12) (.int .i64 s13) (.int .u64 le1) (.int .i64 ttl1) (.bool co1) (.int .u64 rev1) (.int .u64 ol1) (.int .u64 fo1) (.int .u64 fr1) (.int .i64 cl1)) := HCL.out.below hbx (by simp)
  have hCD : Cmd (w4.alloc (.cells arrD 30)) w4.heap.size arrD := (MapKept.heap_alloc w4 (.cells arrD 30)).1
  have hsx : w4.heap.size < (w4.alloc (.cells arrD 30)).heap.size := by simp
  have hs3 : w3.heap.size < (w4.alloc (.cells arrD 30)).heap.size := Nat.lt_of_lt_of_le (by simp) hbx.size
  have fin : ∀ (b0 b1 b3 x8 x9 x10 x11 x12 x13 x14 x15 x16 x17 x18 x19 x20 x21 x22 x23 x24 x25 x26 x27 x28 x29 x30 x31 x32 x33 x34 x35 x36 x37 x38 x39 x40 x41 x42 x43 x44 x45 x46 x47 x48 x49 x50 x51 x52 x53 : Value), Code.wp Tryf.prog (dropS 7 (Tryf.f3.body.getD .skip)) (bodyPost Tryf.prog Tryf.f3 fun e w' => e = .returned (.bool true) ∧ Below w.heap.size w w') ⟨#[b0, b1, .bool false, b3, .bool ok, .pointer (some ⟨w3.heap.size, 0, none⟩), .pointer (some ⟨w4.heap.size, 0, none⟩), r, x8, x9, x10, x11, x12, x13, x14, x15, x16, x17, x18, x19, x20, x21, x22, x23, x24, x25, x26, x27, x28, x29, x30, x31, x32, x33, x34, x35, x36, x37, x38, x39, x40, x41, x42, x43, x44, x45, x46, x47, x48, x49, x50, x51, x52, x53], []⟩ (w4.alloc (.cells arrD 30)) := by
    intro b0 b1 b3 x8 x9 x10 x11 x12 x13 x14 x15 x16 x17 x18 x19 x20 x21 x22 x23 x24 x25 x26 x27 x28 x29 x30 x31 x32 x33 x34 x35 x36 x37 x38 x39 x40 x41 x42 x43 x44 x45 x46 x47 x48 x49 x50 x51 x52 x53
    obtain ⟨hh, hres⟩ := HL.out
    rcases hres with ⟨rfl, hbad⟩ | ⟨rfl, hgood, hfinL⟩
    · rcases hres' with ⟨⟨ra, rfl⟩, rfl, hbad'⟩ | ⟨rfl, hgood', _⟩
      · exact tail_bad w _ _ _ b0 b1 b3 x8 x9 x10 x11 x12 x13 x14 x15 x16 x17 x18 x19 x20 x21 x22 x23 x24 x25 x26 x27 x28 x29 x30 x31 x32 x33 x34 x35 x36 x37 x38 x39 x40 x41 x42 x43 x44 x45 x46 x47 x48 x49 x50 x51 x52 x53 ra hCD hB
      · exfalso
        rcases head_unique hh hh' with ⟨_, h⟩ | ⟨rfl, rfl, rfl⟩
        · exact hgood' h
        · exact hgood' hbad
    · rcases hres' with ⟨_, _, hbad'⟩ | ⟨rfl, hgood', hfinD⟩
      · exfalso
        rcases head_unique hh hh' with ⟨h, _⟩ | ⟨rfl, rfl, rfl⟩
        · exact hgood h
        · exact hgood hbad'
      · rcases head_unique hh hh' with ⟨h, _⟩ | ⟨rfl, rfl, rfl⟩
        · exact absurd h hgood
        have hne : bs ≠ [] := fun h => hgood (.inl (by rw [h]; exact Nat.lt_of_lt_of_le Nat.zero_lt_one hh.pos))
        have h7 : q7 bs f o p ≤ bs.length := by
          rcases Nat.lt_or_ge bs.length (q7 bs f o p) with h | h
          · exact absurd (.inr (.inr (.inr h))) hgood
          · exact h
        obtain ⟨hgd, hbsd, h2⟩ := HD.out
        obtain ⟨hbs2, hg2⟩ := h2 hne
        have hbsd' := hbsd.below hbx hgd
        have hbs2' := hbs2.below hbx hg2
        have hgd' := Nat.lt_of_lt_of_le hgd hbx.size
        have hg2' := Nat.lt_of_lt_of_le hg2 hbx.size
        have hlen := Hn.out
        obtain ⟨valL, oldL, heL, ⟨x2, c2, rfl, hx2⟩, holdL⟩ := hfinL
        obtain ⟨valD, oldD, rfl, ⟨x1, c1, rfl, hx1⟩, holdD⟩ := hfinD
        rw [heL] at hCL
        have hP : q7 bs f o p + (bs.length - q7 bs f o p) ≤ bs.length := by omega
        rcases holdL with ⟨h4, ⟨y2, d2, rfl, hy2⟩⟩ | ⟨h4, rfl⟩
        · rcases holdD with ⟨_, ⟨y1, d1, rfl, hy1⟩⟩ | ⟨h4', _⟩
          · have hM : q6 bs f p + 4 + oldLen bs f p ≤ bs.length := by
              have e7 : q7 bs f o p = q6 bs f p + (4 + oldLen bs f p) := by unfold q7 tailW; rw [if_pos h4]
              omega
            exact tail_sl w _ _ _ b0 b1 b3 x8 x9 x10 x11 x12 x13 x14 x15 x16 x17 x18 x19 x20 x21 x22 x23 x24 x25 x26 x27 x28 x29 x30 x31 x32 x33 x34 x35 x36 x37 x38 x39 x40 x41 x42 x43 x44 x45 x46 x47 x48 x49 x50 x51 x52 x53 _ _ _ _ _ _ _ _ _ _ _ _ _ _ gd g2 x1 x2 _ c1 c2 _ (sl_len hP) (by omega) (sl_cells hbsd' hP hx1) (sl_cells hbs2' hP hx2) hgd' hg2' hs3 hsx
              y1 y2 _ d1 d2 _ (sl_len hM) (by omega) (sl_cells hbsd' hM hy1) (sl_cells hbs2' hM hy2) hCL hCD hB
          · exact absurd h4 h4'
        · rcases holdD with ⟨h4', _⟩ | ⟨_, rfl⟩
          · exact absurd h4' h4
          · exact tail_nil w _ _ _ b0 b1 b3 x8 x9 x10 x11 x12 x13 x14 x15 x16 x17 x18 x19 x20 x21 x22 x23 x24 x25 x26 x27 x28 x29 x30 x31 x32 x33 x34 x35 x36 x37 x38 x39 x40 x41 x42 x43 x44 x45 x46 x47 x48 x49 x50 x51 x52 x53 _ _ _ _ _ _ _ _ _ _ _ _ _ _ gd g2 x1 x2 _ c1 c2 _ (sl_len hP) (by omega) (sl_cells hbsd' hP hx1) (sl_cells hbs2' hP hx2) hgd' hg2' hs3 hsx hCL hCD hB
  clear hbx hB hCL hCD hsx hs3 hh' hres' hb4 HL HD HCL HB23 Hn hmax
  obtain ⟨o9, key9, v91, v92, v93, o91, o92, o93, s90, s91, s92, s93, le9, ttl9, co9, rev9, ol9, fo9, fr9, cl9, rfl⟩ := hshD
  rcases hr with rfl | ⟨a, rfl⟩
  · dsimp only
    repeat (first | exact fin _ _ _ _ _ _ _ _ _ _ _ _ _ _ _ _ _ _ _ _ _ _ _ _ _ _ _ _ _ _ _ _ _ _ _ _ _ _ _ _ _ _ _ _ _ _ _ _ _  | go_step)
  · dsimp only
    repeat (first | exact fin _ _ _ _ _ _ _ _ _ _ _ _ _ _ _ _ _ _ _ _ _ _ _ _ _ _ _ _ _ _ _ _ _ _ _ _ _ _ _ _ _ _ _ _ _ _ _ _ _  | go_step)

end Go.Proofs.Qxb6614561aFmt
