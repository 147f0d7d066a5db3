/-
  THE WALK of DecodeInto, cut by cut.
-/
import Derived.Test.Qxb6614561aFmtInv
namespace Go.Proofs.Qxb6614561aFmt
open Go Go.RowKit Go.Extern.Stop Go.Stop Go.Extern
set_option linter.unusedVariables false

theorem andNot_bd (f : Int) (h0 : 0 ≤ f) (h1 : f < 256) : 0 ≤ bits BinOp.andNot IntKind.u8 f 56 ∧ bits BinOp.andNot IntKind.u8 f 56 < 256 := by
  rw [u8_andNot f 56 h0 h1 (by omega) (by omega)]
  have : (f.toNat &&& (255 - (56 : Int).toNat)) ≤ f.toNat := Nat.and_le_left
  omega

/-- WHERE THE HEAD ENDS: f: the first byte; o: the operation (0 where a second byte names none); P: the place behind. -/
def HeadRel (bs : List UInt8) (f o : Int) (P : Nat) : Prop :=
  0 ≤ f ∧ f < 256 ∧ 0 ≤ o ∧ o < 256 ∧ ((bs.length = 0 ∧ P = 1) ∨ (1 ≤ bs.length ∧ f = (be bs 0 1 : Nat) ∧
    ((bits BinOp.andNot IntKind.u8 f 56 ≠ 0 ∧ o = bits BinOp.andNot IntKind.u8 f 56 ∧ P = 1) ∨ (bits BinOp.andNot IntKind.u8 f 56 = 0 ∧ P = 2 ∧ (2 ≤ bs.length → ((be bs 1 1 < 8 ∧ o = 0) ∨ (8 ≤ be bs 1 1 ∧ o = (be bs 1 1 : Nat))))))))

theorem HeadRel.pos {bs : List UInt8} {f o : Int} {P : Nat} (h : HeadRel bs f o P) : 1 ≤ P := by
  rcases h with ⟨_, _, _, _, ⟨_, rfl⟩ | ⟨_, _, ⟨_, _, rfl⟩ | ⟨_, rfl, _⟩⟩⟩ <;> omega

def sess (bs : List UInt8) (f : Int) (p k : Nat) : Nat := if flg f 32 = true then be bs (p + 8 * k) 8 else 0
def leaseV (bs : List UInt8) (f : Int) (p : Nat) : Nat := if flg f 16 = true then be bs (q2 f p) 8 else 0
def revV (bs : List UInt8) (f : Int) (p : Nat) : Nat := if flg f 8 = true then be bs (q3 f p) 8 else 0
def ttlV (bs : List UInt8) (f o : Int) (p : Nat) : Nat := if o = 5 then be bs (q6 bs f p) 4 else 0
def opV (k : Int) (bs : List UInt8) (f o : Int) (p d : Nat) : Nat := if o = k then be bs (q6 bs f p + d) 8 else 0

/-- A slice of block g: L bytes from place p on. -/
def IsSl (g p L : Nat) (v : Value) : Prop := ∃ q c, v = .slice (some ⟨g, q, none⟩) L c ∧ (0 < L → q = p)

/-- THE COMMAND that the layout places in bs, its slices in block g. -/
def Fin (g : Nat) (bs : List UInt8) (f o : Int) (p : Nat) (arr : Array Value) : Prop :=
  ∃ val old : Value, arr = cmdA (.int .u8 o) (.string (keyS bs f p)) val old (.int .u64 (sess bs f p 0 : Nat)) (.int .u64 (sess bs f p 1 : Nat)) (.int .i64 (wrap64 (sess bs f p 2 : Nat))) (.int .i64 (wrap64 (sess bs f p 3 : Nat)))
      (.int .u64 (leaseV bs f p : Nat)) (.int .i64 (ttlV bs f o p : Nat)) (.bool (flg f 8)) (.int .u64 (revV bs f p : Nat)) (.int .u64 (opV 8 bs f o p 0 : Nat)) (.int .u64 (opV 9 bs f o p 0 : Nat)) (.int .u64 (opV 10 bs f o p 0 : Nat)) (.int .i64 (wrap64 (opV 10 bs f o p 8 : Nat))) ∧
    IsSl g (q7 bs f o p) (bs.length - q7 bs f o p) val ∧ ((o = 4 ∧ IsSl g (q6 bs f p + 4) (oldLen bs f p) old) ∨ (o ≠ 4 ∧ old = .slice none 0 0))

/-- Where the layout does not fit. -/
def Bad (bs : List UInt8) (f o : Int) (p : Nat) : Prop := bs.length < p ∨ o < 1 ∨ 10 < o ∨ bs.length < q7 bs f o p

def IntoEnd (w : World) (C g : Nat) (bs : List UInt8) (e : Ending) (w' : World) : Prop :=
  ∃ (f o : Int) (p : Nat), HeadRel bs f o p ∧ Below C w w' ∧ C < w'.heap.size ∧
    ((∃ r, e = .returned r ∧ IsErr r ∧ Cmd w' C zeroA ∧ Bad bs f o p) ∨ (∃ arr, e = .returned .nilIface ∧ ¬ Bad bs f o p ∧ Cmd w' C arr ∧ Fin g bs f o p arr))

theorem Took.slice {g : Nat} {bs : List UInt8} {P K : Nat} {v : Value} (h : Took g bs P K v) : ∃ vo vm vc, v = .slice vo vm vc := by
  rcases Nat.lt_or_ge bs.length (P + K) with h1 | h1
  · exact ⟨_, _, _, h.2 h1⟩
  · obtain ⟨q, hq, _⟩ := h.1 h1
    exact ⟨_, _, _, hq⟩

theorem wrap64_small (X : Nat) (h : X < 4294967296) : wrap64 (X : Int) = X := by unfold wrap64; omega

/-- The places that the walk has come to are the layout's. -/
theorem pos_eq {bs : List UInt8} {f o : Int} {P KL P6 OL P8 P9 P10 P11 P12 : Nat} (HKL : q4 f P + 2 ≤ bs.length → KL = keyLen bs f P) (HP6 : P6 = q4 f P + 2 + KL) (HOL : P6 + 4 ≤ bs.length → OL = be bs P6 4)
    (HP8 : P8 = P6 + if o = 4 then 4 + OL else 0) (HP9 : P9 = P8 + if o = 5 then 4 else 0) (HP10 : P10 = P9 + if o = 8 then 8 else 0) (HP11 : P11 = P10 + if o = 9 then 8 else 0) (HP12 : P12 = P11 + if o = 10 then 16 else 0)
    (h : P12 ≤ bs.length ∨ q7 bs f o P ≤ bs.length) : P12 = q7 bs f o P ∧ KL = keyLen bs f P ∧ P6 = q6 bs f P ∧ (o = 4 → OL = oldLen bs f P) := by
  have h6 : q6 bs f P = q4 f P + 2 + keyLen bs f P := rfl
  have h7 : q7 bs f o P = q6 bs f P + tailW bs f o P := rfl
  have hk : KL = keyLen bs f P := by
    apply HKL
    rcases h with h | h
    · have : P6 ≤ P12 := by subst HP12 HP11 HP10 HP9 HP8; omega
      omega
    · omega
  have h66 : P6 = q6 bs f P := by omega
  by_cases o4 : o = 4
  · subst o4
    have e8 : P8 = P6 + (4 + OL) := by rw [HP8, if_pos rfl]
    have e12 : P12 = P8 := by
      rw [HP12, HP11, HP10, HP9, if_neg (by omega), if_neg (by omega), if_neg (by omega), if_neg (by omega)]
      rfl
    have et : tailW bs f 4 P = 4 + oldLen bs f P := by unfold tailW; rw [if_pos rfl]
    have ho : OL = oldLen bs f P := by
      unfold oldLen
      rw [← h66]
      apply HOL
      rcases h with h | h
      · omega
      · omega
    exact ⟨by omega, hk, h66, fun _ => ho⟩
  · have e8 : P8 = P6 := by rw [HP8, if_neg o4]; rfl
    refine ⟨?_, hk, h66, fun h => absurd h o4⟩
    have et : tailW bs f o P = if o = 5 then 4 else if o = 8 then 8 else if o = 9 then 8 else if o = 10 then 16 else 0 := by unfold tailW; rw [if_neg o4]
    rw [h7, et, HP12, HP11, HP10, HP9, e8, h66]
    by_cases o5 : o = 5
    · subst o5; rfl
    by_cases o8 : o = 8
    · subst o8; rfl
    by_cases o9 : o = 9
    · subst o9; rfl
    by_cases o10 : o = 10
    · subst o10; rfl
    simp only [if_neg o5, if_neg o8, if_neg o9, if_neg o10, Nat.add_zero]

/-- The code behind the first k statements. -/
def dropS : Nat → Code → Code
  | 0, c => c
  | k + 1, .seq _ b => dropS k b
  | _, c => c

set_option maxHeartbeats 4000000 in
set_option maxRecDepth 100000 in
theorem into_15 (F : Interp) (C g n : Nat) (bs : List UInt8) (ao : Option Addr) (w : World) (hF : F.answers w.tape) (hlen : bs.length ≤ 1048576) (hgD : g < w.heap.size) (hCne : ¬ w.heap.size = C) (f : Int) (u8 u9 u10 u11 u12 u13 u14 u15 u16 u17 u18 u19 u20 u21 u22 u23 u24 u25 u26 u27 u28 u29 u30 u31 u32 u33 u34 u35 u36 u37 u38 u39 u40 u41 u42 u43 u44 u45 u46 u47 u48 u49 u50 u51 u52 u53 u54 u55 u56 u57 u58 u59 u60 u61 u62 u63 u64 u65 u66 u67 u68 u69 u70 u71 u72 u73 u74 u75 u76 u77 u78 u79 u80 u81 u82 u83 u84 u85 u86 u87 u88 u89 u90 u91 u92 u93 u94 u95 u96 u97 u98 u99 u100 u101 u102 u103 u104 u105 u106 u107 u108 u109 u110 u111 u112 u113 u114 u115 u116 u117 u118 u119 u120 u121 u122 u123 u124 u125 u126 u127 u128 u129 u130 u131 u132 u133 u134 u135 u136 u137 u138 u139 u140 u141 u142 u143 u144 u145 u146 u147 u148 u149 u150 u151 u152 u153 u154 u155 u156 u157 u158 u159 u160 u161 u162 u163 u164 u165 u166 u167 u168 : Value) (wc : World)
    (o : Int) (P : Nat) (Hh : Hid (HeadRel bs f o P)) (hobd : 0 ≤ o ∧ o < 256) (Hknown : Hid (bs.length < P ∨ (1 ≤ o ∧ o ≤ 10))) (hP1 : 1 ≤ P) (S0 S1 S2 S3 : Nat) (HS : Hid (q2 f P ≤ bs.length → S0 = sess bs f P 0 ∧ S1 = sess bs f P 1 ∧ S2 = sess bs f P 2 ∧ S3 = sess bs f P 3)) (hq2 : Hid (P ≤ q2 f P)) (LE : Nat) (HLE : Hid (q3 f P ≤ bs.length → LE = leaseV bs f P)) (hq3 : Hid (q2 f P ≤ q3 f P)) (RE : Nat) (HRE : Hid (q4 f P ≤ bs.length → RE = revV bs f P)) (hq4 : Hid (q3 f P ≤ q4 f P)) (KL : Nat) (key : ByteArray) (HKL : Hid (q4 f P + 2 ≤ bs.length → KL = keyLen bs f P)) (P6 : Nat) (Hkey : Hid (P6 ≤ bs.length → key = keyS bs f P)) (HP6 : Hid (P6 = q4 f P + 2 + KL)) (OL : Nat) (old : Value) (HOL : Hid (P6 + 4 ≤ bs.length → OL = be bs P6 4)) (Hold : Hid ((o = 4 ∧ (P6 + 4 + OL ≤ bs.length → IsSl g (P6 + 4) OL old)) ∨ (o ≠ 4 ∧ old = .slice none 0 0))) (P8 : Nat) (HP8 : Hid (P8 = P6 + if o = 4 then 4 + OL else 0)) (TT : Nat) (HTT : Hid ((o = 5 ∧ (P8 + 4 ≤ bs.length → TT = be bs P8 4)) ∨ (o ≠ 5 ∧ TT = 0))) (P9 : Nat) (HP9 : Hid (P9 = P8 + if o = 5 then 4 else 0)) (OD : Nat) (HOD : Hid ((o = 8 ∧ (P9 + 8 ≤ bs.length → OD = be bs P9 8)) ∨ (o ≠ 8 ∧ OD = 0))) (P10 : Nat) (HP10 : Hid (P10 = P9 + if o = 8 then 8 else 0)) (FO : Nat) (HFO : Hid ((o = 9 ∧ (P10 + 8 ≤ bs.length → FO = be bs P10 8)) ∨ (o ≠ 9 ∧ FO = 0))) (P11 : Nat) (HP11 : Hid (P11 = P10 + if o = 9 then 8 else 0)) (FR CL : Nat) (HFR : Hid ((o = 10 ∧ (P11 + 16 ≤ bs.length → FR = be bs P11 8 ∧ CL = be bs (P11 + 8) 8)) ∨ (o ≠ 10 ∧ FR = 0 ∧ CL = 0))) (P12 : Nat) (HP12 : Hid (P12 = P11 + if o = 10 then 16 else 0))
    (inv15 : Inv w C w.heap.size g bs P12 (cmdA (.int .u8 o) (.string key) (.slice none 0 0) old (.int .u64 S0) (.int .u64 S1) (.int .i64 (wrap64 S2)) (.int .i64 (wrap64 S3)) (.int .u64 LE) (.int .i64 TT) (.bool (flg f 8)) (.int .u64 RE) (.int .u64 OD) (.int .u64 FO) (.int .u64 FR) (.int .i64 (wrap64 CL))) wc) :
    Code.wp Tryf.prog (dropS 15 (Tryf.f12.body.getD .skip)) (bodyPost Tryf.prog Tryf.f12 fun e w' => IntoEnd w C g bs e w') ⟨#[.pointer (some ⟨C, 0, none⟩), .slice ao n n, undef, undef, .nilIface, .pointer (some ⟨w.heap.size, 0, none⟩), .int .u8 f, undef, u8, u9, u10, u11, u12, u13, u14, u15, u16, u17, u18, u19, u20, u21, u22, u23, u24, u25, u26, u27, u28, u29, u30, u31, u32, u33, u34, u35, u36, u37, u38, u39, u40, u41, u42, u43, u44, u45, u46, u47, u48, u49, u50, u51, u52, u53, u54, u55, u56, u57, u58, u59, u60, u61, u62, u63, u64, u65, u66, u67, u68, u69, u70, u71, u72, u73, u74, u75, u76, u77, u78, u79, u80, u81, u82, u83, u84, u85, u86, u87, u88, u89, u90, u91, u92, u93, u94, u95, u96, u97, u98, u99, u100, u101, u102, u103, u104, u105, u106, u107, u108, u109, u110, u111, u112, u113, u114, u115, u116, u117, u118, u119, u120, u121, u122, u123, u124, u125, u126, u127, u128, u129, u130, u131, u132, u133, u134, u135, u136, u137, u138, u139, u140, u141, u142, u143, u144, u145, u146, u147, u148, u149, u150, u151, u152, u153, u154, u155, u156, u157, u158, u159, u160, u161, u162, u163, u164, u165, u166, u167, u168], []⟩ wc := by
  conv => arg 2; whnf
  have hpos := fun h => pos_eq HKL.out HP6.out HOL.out HP8.out HP9.out HP10.out HP11.out HP12.out (o := o) h
  have Hpos : Hid (P12 ≤ bs.length ∨ q7 bs f o P ≤ bs.length → P12 = q7 bs f o P ∧ KL = keyLen bs f P ∧ P6 = q6 bs f P ∧ (o = 4 → OL = oldLen bs f P)) := hpos
  clear hpos
  have d2 := inv15.st.short
  by_cases hs : bs.length < P12
  · rw [decide_eq_true hs] at d2
    have inv16 := inv15.set16 (.int .u8 0) (.string ⟨#[]⟩) (.slice none 0 0) (.slice none 0 0) (.int .u64 0) (.int .u64 0) (.int .i64 0) (.int .i64 0) (.int .u64 0) (.int .i64 0) (.bool false) (.int .u64 0) (.int .u64 0) (.int .u64 0) (.int .u64 0) (.int .i64 0)
    have k0 := inv15.cmd.cell 0
    have k1 := inv15.cmd.cell 1
    have k2 := inv15.cmd.cell 2
    have k3 := inv15.cmd.cell 3
    have k4 := inv15.cmd.cell 4
    have k5 := inv15.cmd.cell 5
    have k6 := inv15.cmd.cell 6
    have k7 := inv15.cmd.cell 7
    have k8 := inv15.cmd.cell 8
    have k9 := inv15.cmd.cell 9
    have k10 := inv15.cmd.cell 10
    have k11 := inv15.cmd.cell 11
    have k12 := inv15.cmd.cell 12
    have k13 := inv15.cmd.cell 13
    have k14 := inv15.cmd.cell 14
    have k15 := inv15.cmd.cell 15
    simp only [List.getElem?_toArray, List.getElem?_cons_zero, List.getElem?_cons_succ] at k0 k1 k2 k3 k4 k5 k6 k7 k8 k9 k10 k11 k12 k13 k14 k15
    have fz := inv15.cmd.frozen
    go_wp2_with fail
    generalize ((((((((((((((((wc.setCell ⟨C, 0, none⟩ (.int .u8 0)).setCell ⟨C, 1, none⟩ (.string ⟨#[]⟩)).setCell ⟨C, 2, none⟩ (.slice none 0 0)).setCell ⟨C, 3, none⟩ (.slice none 0 0)).setCell ⟨C, 4, none⟩ (.int .u64 0)).setCell ⟨C, 5, none⟩ (.int .u64 0)).setCell ⟨C, 6, none⟩ (.int .i64 0)).setCell ⟨C, 7, none⟩ (.int .i64 0)).setCell ⟨C, 8, none⟩ (.int .u64 0)).setCell ⟨C, 9, none⟩ (.int .i64 0)).setCell ⟨C, 10, none⟩ (.bool false)).setCell ⟨C, 11, none⟩ (.int .u64 0)).setCell ⟨C, 12, none⟩ (.int .u64 0)).setCell ⟨C, 13, none⟩ (.int .u64 0)).setCell ⟨C, 14, none⟩ (.int .u64 0)).setCell ⟨C, 15, none⟩ (.int .i64 0)) = W16 at inv16 ⊢
    clear k0 k1 k2 k3 k4 k5 k6 k7 k8 k9 k10 k11 k12 k13 k14 k15 fz inv15 d2
    have hF16 : F.answers W16.tape := by rw [inv16.bel.tape]; exact hF
    rcases inv16.st with ⟨hh, _⟩ | ⟨_, ao', m, c, hd, _⟩
    · omega
    refine (err_any F w.heap.size _ W16 hF16 hd).mono ?_
    rintro e w3 ⟨r, rfl, hr, hb3⟩
    go_wp2
    go_ret
    refine ⟨f, o, P, Hh.out, inv16.bel.trans (hb3.mono (Nat.le_of_lt (Nat.lt_trans inv16.CD inv16.st.lt))), Nat.lt_of_lt_of_le (Nat.lt_trans inv16.CD inv16.st.lt) hb3.size, .inl ⟨r, rfl, hr, inv16.cmd.below hb3 (Nat.lt_trans inv16.CD inv16.st.lt), ?_⟩⟩
    by_cases h7 : q7 bs f o P ≤ bs.length
    · have := (Hpos.out (.inr h7)).1
      omega
    · exact .inr (.inr (.inr (by omega)))
  · rw [decide_eq_false hs] at d2
    have hst := inv15.st
    rcases hst with ⟨_, ao', hd, ha1, ha2⟩ | ⟨hh, _⟩
    rotate_left
    · omega
    have d0 := hd.cells.1
    have k2 := inv15.cmd.cell 2
    simp only [List.getElem?_toArray, List.getElem?_cons_zero, List.getElem?_cons_succ] at k2
    have fz := inv15.cmd.frozen
    go_wp2
    go_ret
    have inv16 := inv15.set 2 (.slice ao' (bs.length - P12) (bs.length - P12))
    obtain ⟨e7, eKL, e6, eOL⟩ := Hpos.out (.inl (by omega))
    have h2 := hq2.out; have h3 := hq3.out; have h4 := hq4.out
    have h6 := HP6.out
    have hle : P6 ≤ P12 := by
      have := HP12.out; have := HP11.out; have := HP10.out; have := HP9.out; have := HP8.out
      omega
    have hPn : P ≤ bs.length := by omega
    have hk : 1 ≤ o ∧ o ≤ 10 := by
      rcases Hknown.out with h | h
      · omega
      · exact h
    obtain ⟨q, rfl⟩ := ha1 (by omega)
    refine ⟨f, o, P, Hh.out, inv16.bel, Nat.lt_trans inv16.CD inv16.st.lt, .inr ⟨_, rfl, ?_, inv16.cmd, ?_⟩⟩
    · unfold Bad
      omega
    · obtain ⟨s0, s1, s2, s3⟩ := HS.out (by omega)
      have eLE := HLE.out (by omega)
      have eRE := HRE.out (by omega)
      have eK := Hkey.out (by omega)
      have eTT : TT = ttlV bs f o P := by
        unfold ttlV
        rcases HTT.out with ⟨ho, h⟩ | ⟨ho, h⟩
        · rw [if_pos ho, ← e6]
          have e8 : P8 = P6 := by rw [HP8.out, if_neg (by omega)]; rfl
          rw [← e8]
          refine h ?_
          have := HP12.out; have := HP11.out; have := HP10.out
          have e9 : P9 = P8 + 4 := by rw [HP9.out, if_pos ho]
          omega
        · rw [if_neg ho, h]
      have eOD : OD = opV 8 bs f o P 0 := by
        unfold opV
        rcases HOD.out with ⟨ho, h⟩ | ⟨ho, h⟩
        · rw [if_pos ho, ← e6]
          have e9 : P9 = P6 := by rw [HP9.out, HP8.out, if_neg (by omega), if_neg (by omega)]; rfl
          rw [h (by have := HP12.out; have := HP11.out; have e10 : P10 = P9 + 8 := by rw [HP10.out, if_pos ho]
                    omega), e9]
          rfl
        · rw [if_neg ho, h]
      have eFO : FO = opV 9 bs f o P 0 := by
        unfold opV
        rcases HFO.out with ⟨ho, h⟩ | ⟨ho, h⟩
        · rw [if_pos ho, ← e6]
          have e9 : P10 = P6 := by rw [HP10.out, HP9.out, HP8.out, if_neg (by omega), if_neg (by omega), if_neg (by omega)]; rfl
          rw [h (by have := HP12.out; have e10 : P11 = P10 + 8 := by rw [HP11.out, if_pos ho]
                    omega), e9]
          rfl
        · rw [if_neg ho, h]
      have eFC : FR = opV 10 bs f o P 0 ∧ CL = opV 10 bs f o P 8 := by
        unfold opV
        rcases HFR.out with ⟨ho, h⟩ | ⟨ho, h1, h2⟩
        · rw [if_pos ho, if_pos ho, ← e6]
          have e9 : P11 = P6 := by rw [HP11.out, HP10.out, HP9.out, HP8.out, if_neg (by omega), if_neg (by omega), if_neg (by omega), if_neg (by omega)]; rfl
          obtain ⟨h1, h2⟩ := h (by have e10 : P12 = P11 + 16 := by rw [HP12.out, if_pos ho]
                                   omega)
          rw [h1, h2, e9]
          exact ⟨rfl, rfl⟩
        · rw [if_neg ho, if_neg ho, h1, h2]
          exact ⟨rfl, rfl⟩
      refine ⟨.slice (some ⟨g, q, none⟩) (bs.length - P12) (bs.length - P12), old, ?_, ?_, ?_⟩
      · rw [← s0, ← s1, ← s2, ← s3, ← eLE, ← eRE, ← eK, ← eTT, ← eOD, ← eFO, ← eFC.1, ← eFC.2]
        rfl
      · rw [← e7]
        exact ⟨q, _, rfl, fun h => by have := ha2 (by omega); simpa using this⟩
      · rcases Hold.out with ⟨ho, h⟩ | ⟨ho, h⟩
        · left
          refine ⟨ho, ?_⟩
          rw [← e6, ← eOL ho]
          refine h ?_
          have e8 : P8 = P6 + (4 + OL) := by rw [HP8.out, if_pos ho]
          have := HP12.out; have := HP11.out; have := HP10.out; have := HP9.out
          omega
        · exact .inr ⟨ho, h⟩

end Go.Proofs.Qxb6614561aFmt
