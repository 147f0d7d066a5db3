/-
  THE WALK of the law, whole.
-/
import Derived.Test.Qxb6614456aRot
import Derived.Test.Qxb6614456aLoop
namespace Go.Proofs.Qxb6614456a
open Go Go.RowKit Go.Sort Go.Shelf Go.Lib

theorem fits_ls {bs : List UInt8} {ws : List Wn} (hf : Fits bs ws) {w : World} {ao : Option Addr} (h : WsAt w ao ws) : LsAt w ao (ws.map Wn.lp).toArray := by
  intro j hj
  have hj' : j < ws.length := by simpa using hj
  obtain ⟨g, q, h1, h2, h3⟩ := h j hj'
  refine ⟨g, q, h1, h2, ?_⟩
  rw [getElem!_pos _ j hj]
  have hb := hf.2.2 j hj'
  have := hf.1
  simp only [List.getElem_toArray, List.getElem_map]
  rw [Wn.lp_wn _ hb.1 (by omega)]
  exact h3 j hj'

theorem fits_off {bs : List UInt8} {ws : List Wn} (hf : Fits bs ws) (j : Nat) (hj : j < ws.length) : (ws.map Wn.lp).toArray[j]!.off.val ≤ bs.length := by
  rw [getElem!_pos _ j (by simpa using hj)]
  have hb := hf.2.2 j hj
  have := hf.1
  simp only [List.getElem_toArray, List.getElem_map, Wn.lp, Fin.ofNat]
  have : ws[j].off.toNat % 1048577 ≤ ws[j].off.toNat := Nat.mod_le _ _
  omega

theorem perm_list {d d' : Array Lp} {n : Nat} (h : PermIn 0 n d d') (hn : d.size = n) : d'.toList.Perm d.toList := by
  have hs : d'.size = n := h.1.trans hn
  have e1 : d'.extract 0 n = d' := by rw [← hs]; simp
  have e2 : d.extract 0 n = d := by rw [← hn]; simp
  have hp := h.2.2
  rwa [e1, e2] at hp

theorem turned_mem (d : Array Lp) {n K : Nat} (hn : d.size = n) (hK : K ≤ n) (i : Nat) (hi : i < n) : ∃ j, j < n ∧ (turned d K)[i]! = d[j]! := by
  have hs := size_turned d hn hK
  have hm : (turned d K)[i]! ∈ (turned d K).toList := by rw [getElem!_pos (turned d K) i (by omega)]; simp
  obtain ⟨j, hj, e⟩ := List.mem_iff_getElem.1 ((perm_turned d K).mem_iff.1 hm)
  have hj' : j < d.size := by simpa using hj
  exact ⟨j, by omega, by rw [getElem!_pos d j hj']; simpa using e.symm⟩

theorem loc_p5 {w : World} {G n : Nat} {arr : Array Value} {bs : List UInt8} {x : Array Lp} (hB : Blk w G arr 35) (hA : LocA arr bs x n) (j : Nat) (hj : j < n) :
    P5 w G (j * 5) (ln bs x[j]!.off.val : Int) ((x[j]!.off.val : Int) - (ls bs x[j]!.off.val : Int) + 1) x[j]!.path x[j]!.nj x[j]!.msg := by
  have h := hA j hj
  exact ⟨by rw [hB.cell]; exact h.1, by rw [hB.cell]; exact h.2.1, by rw [hB.cell]; exact h.2.2.1, by rw [hB.cell]; exact h.2.2.2.1, by rw [hB.cell]; exact h.2.2.2.2⟩

/-- The two answers are twins. -/
theorem twins {w : World} {G1 G2 n K : Nat} {bs : List UInt8} {d x y : Array Lp} {arr1 arr2 : Array Value} (hn : d.size = n) (hK : K ≤ n) (px : PermIn 0 n d x) (sx : SortedIn (ltOf cfL) 0 n x) (B1 : Blk w G1 arr1 35) (A1 : LocA arr1 bs x n)
    (py : PermIn 0 n (turned d K) y) (sy : SortedIn (ltOf cfL) 0 n y) (B2 : Blk w G2 arr2 35) (A2 : LocA arr2 bs y n) :
    Twin w G1 G2 n (fun j => (ln bs x[j]!.off.val : Int)) (fun j => (x[j]!.off.val : Int) - (ls bs x[j]!.off.val : Int) + 1) (fun j => x[j]!.path) (fun j => x[j]!.nj) (fun j => x[j]!.msg) (fun j => y[j]!.path) (fun j => y[j]!.nj) (fun j => y[j]!.msg) := by
  have hx : x.size = n := px.1.trans hn
  have hy : y.size = n := py.1.trans (size_turned d hn hK)
  have hp : x.toList.Perm y.toList := (perm_list px hn).trans ((perm_turned d K).symm.trans (perm_list py (size_turned d hn hK)).symm)
  have ho := fun j hj => offs_same hx hy hp sx sy j hj
  refine ⟨fun j hj => loc_p5 B1 A1 j hj, fun j hj => ?_, fun j hj => ?_, fun j hj => ?_, fun p hp' h1 h2 => ?_⟩
  · have h := loc_p5 B2 A2 j hj
    rw [← ho j hj] at h
    exact h
  · have a := ln_one bs x[j]!.off.val
    have b := ls_le bs x[j]!.off.val
    exact ⟨by omega, by omega⟩
  · exact place_mono bs (sorted_off sx (by omega) hj)
  · have e := lone_same hx hy hp sx sy p hp' (h1.imp id fun h e => by rw [e] at h; simp at h) (h2.imp id fun h e => by rw [e] at h; simp at h)
    rw [e]
    exact ⟨rfl, rfl, rfl⟩

set_option maxHeartbeats 8000000 in
set_option maxRecDepth 100000 in
theorem main_some (a0 : Option Addr) (n0 c0 : Nat) (bs : List UInt8) (g q n c : Nat) (ws : List Wn) (k : Int) (w : World) (hn0 : bs.length = n0) (hbs : BsAt w a0 bs) (hb0 : ∀ g q, a0 = some ⟨g, q, none⟩ → g < w.heap.size)
    (hn : ws.length = n) (hnc : n ≤ c) (hg : g < w.heap.size) (hw : WsAt w (some ⟨g, q, none⟩) ws) :
    Calls Try.prog 5 #[.slice a0 n0 c0, .slice (some ⟨g, q, none⟩) n c, .int .i64 k] w fun e w' => e = .returned (.bool true) ∧ RowKit.Below w.heap.size w w' := by
  have Hn0 : Hid (bs.length = n0) := hn0
  have Hbs : Hid (BsAt w a0 bs) := hbs
  have Hb0 : Hid (∀ g q, a0 = some ⟨g, q, none⟩ → g < w.heap.size) := hb0
  have Hn : Hid (ws.length = n) := hn
  have Hw : Hid (WsAt w (some ⟨g, q, none⟩) ws) := hw
  clear hn0 hbs hb0 hn hw
  go_enter Try.func5, Try.ntmps5
  go_wp2_with fail
  refine (zz_any a0 n0 c0 (some ⟨g, q, none⟩) n c ws k w Hn.out Hw.out).mono ?_
  rintro e w' ⟨b, rfl, rfl, -⟩
  cases b
  · go_wp2_with fail
    go_ret
    exact ⟨rfl, RowKit.Below.refl _ _⟩
  go_wp2_with fail
  refine (fit_any a0 n0 c0 bs (some ⟨g, q, none⟩) n c ws w' Hn0.out Hn.out Hw.out).mono ?_
  rintro e w ⟨b, rfl, rfl, hf⟩
  cases b
  · go_wp2_with fail
    go_ret
    exact ⟨rfl, RowKit.Below.refl _ _⟩
  have HF : Hid (Fits bs ws) := hf rfl
  clear hf
  by_cases hk0 : k < 0
  · go_wp2_with fail
    go_ret
    exact ⟨rfl, RowKit.Below.refl _ _⟩
  by_cases hkn : (n : Int) < k
  · go_wp2_with fail
    go_ret
    exact ⟨rfl, RowKit.Below.refl _ _⟩
  obtain ⟨K, rfl⟩ : ∃ K : Nat, k = K := ⟨k.toNat, by omega⟩
  have hKn : K ≤ n := by omega
  have hn2 : n ≤ 26214 := by have := HF.out.2.1; rw [Hn.out] at this; omega
  obtain ⟨d, hd⟩ : ∃ d, d = (ws.map Wn.lp).toArray := ⟨_, rfl⟩
  have HLs : Hid (LsAt w (some ⟨g, q, none⟩) d) := by unfold Hid; rw [hd]; exact fits_ls HF.out Hw.out
  have Hds : Hid (d.size = n) := by unfold Hid; rw [hd]; simpa using Hn.out
  have Hoff : Hid (∀ j, j < n → d[j]!.off.val ≤ n0) := fun j hj => by rw [hd, ← Hn0.out]; exact fits_off HF.out j (by rw [Hn.out]; exact hj)
  have hmax : n0 ≤ 1048576 := by rw [← Hn0.out]; exact HF.out.1
  clear hd HF Hw Hn
  have hm1 := mk26' n (by omega) w
  obtain ⟨w2, w3, RF⟩ := rot_facts g q n K d w hg Hds.out hKn HLs.out
  have l1 := RF.l1
  have s1 := RF.s1
  have l2 := RF.l2
  have s2 := RF.s2
  have HRb : Hid (RowKit.Below w.heap.size w w3) := RF.bel
  have HRl : Hid (LsAt w3 (some ⟨w.heap.size, 0, none⟩) (turned d K)) := RF.ls
  generalize w.alloc (.cells (madeCells #[.int .i64 0, .int .i64 0, .int .i64 0, .string ⟨#[]⟩, .bool false, .string ⟨#[]⟩] (n * 6)) 50) = w1 at *
  have hKz : (0 : Int) ≤ (K : Int) := by omega
  have hKnz : (K : Int) ≤ (n : Int) := by omega
  have hKcz : (K : Int) ≤ (c : Int) := by omega
  have hncz : (n : Int) ≤ (c : Int) := by omega
  have hkd : decide ((K : Int) < 0) = false := decide_eq_false (by omega)
  have hkd2 : ¬ n < K := by omega
  have hKK : n - K + K = n := by omega
  clear RF
  by_cases hcK : c = K
  · obtain rfl : n = c := by omega
    obtain rfl : n = K := by omega
    have e0 : (flat6 d n).drop (n * 6) = [] := List.drop_eq_nil_of_le (by rw [flat6_length]; exact Nat.le_refl _)
    have e1 : w2 = w1 := by
      have h := s1
      rw [e0] at h
      simpa [storeCells] using h.symm
    subst e1
    rw [Nat.sub_self, Nat.zero_mul] at s2
    clear hcK e0 l1 s1
    go_wp2_with fail
    have call1 := call_any a0 n0 c0 bs (some ⟨g, q, none⟩) n n d w3 Hds.out (by omega) Hn0.out hmax (Hbs.out.below HRb.out Hb0.out) (fun x y h => Nat.lt_of_lt_of_le (Hb0.out x y h) HRb.out.size) Hoff.out (HLs.out.below HRb.out)
    refine call1.mono ?_
    rintro e w4 ⟨GA, AA, rfl, hb4, hR4⟩
    have HB4 : Hid (RowKit.Below w3.heap.size w3 w4) := hb4
    have HR4 : Hid (0 < n → w3.heap.size ≤ GA ∧ ∃ d' arr, PermIn 0 n d d' ∧ SortedIn (ltOf cfL) 0 n d' ∧ Blk w4 GA arr 35 ∧ LocA arr bs d' n) := hR4
    have HW4 : Hid (RowKit.Below w.heap.size w w4) := HRb.out.trans (hb4.mono HRb.out.size)
    clear call1 hb4 hR4
    obtain ⟨r1, hr1⟩ : ∃ r1, r1 = (if n = 0 then none else some (⟨GA, 0, none⟩ : Addr)) := ⟨_, rfl⟩
    have Hr1 : Hid (r1 = (if n = 0 then none else some (⟨GA, 0, none⟩ : Addr))) := hr1
    rw [← hr1]
    clear hr1
    have call2 := call_any a0 n0 c0 bs (some ⟨w.heap.size, 0, none⟩) n n (turned d n) w4 (size_turned d Hds.out hKn) (by omega) Hn0.out hmax (Hbs.out.below HW4.out Hb0.out) (fun x y h => Nat.lt_of_lt_of_le (Hb0.out x y h) HW4.out.size) (fun i hi => by obtain ⟨j, hj, e⟩ := turned_mem d Hds.out hKn i hi; rw [e]; exact Hoff.out j hj) (HRl.out.below HB4.out)
    dsimp only
    go_wp2_with fail
    refine call2.mono ?_
    rintro e w5 ⟨GB, AB, rfl, hb5, hR5⟩
    have HW5 : Hid (RowKit.Below w.heap.size w w5) := HW4.out.trans (hb5.mono HW4.out.size)
    have HT : Hid (∃ L C P1 J1 M1 P2 J2 M2, Twin w5 GA GB n L C P1 J1 M1 P2 J2 M2) := by
      by_cases h0 : 0 < n
      · obtain ⟨_, x, arr1, px, sx, B1, A1⟩ := HR4.out h0
        obtain ⟨_, y, arr2, py, sy, B2, A2⟩ := hR5 h0
        exact ⟨_, _, _, _, _, _, _, _, twins Hds.out hKn px sx (B1.below hb5 B1.lt) A1 py sy B2 A2⟩
      · exact ⟨fun _ => 0, fun _ => 0, fun _ => default, fun _ => false, fun _ => default, fun _ => default, fun _ => false, fun _ => default, ⟨fun j hj => by omega, fun j hj => by omega, fun j hj => by omega, fun j hj => by omega, fun j hj => by omega⟩⟩
    clear call2 hb5 hR5
    obtain ⟨r2, hr2⟩ : ∃ r2, r2 = (if n = 0 then none else some (⟨GB, 0, none⟩ : Addr)) := ⟨_, rfl⟩
    have Hr2 : Hid (r2 = (if n = 0 then none else some (⟨GB, 0, none⟩ : Addr))) := hr2
    rw [← hr2]
    clear hr2
    dsimp only
    obtain ⟨L, C, P1, J1, M1, P2, J2, M2, hT⟩ := HT.out
    have fin := fun x0 x2 x3 x4 x5 x6 x7 x9 x11 x12 x13 x14 x15 x16 x17 x18 x19 x20 x21 x22 x23 x24 x25 x26 x27 x28 x29 x30 x31 x32 x33 x34 x35 x36 x37 x38 x39 x40 x41 x42 x43 x44 x45 x46 x47 x48 x49 x50 x51 x52 x53 x54 x55 x56 x57 x58 x59 x60 x61 x62 x63 x64 x65 x66 x67 x68 x69 x70 x71 x72 x73 x74 x75 x76 x77 x78 x79 x80 x81 x82 x83 x84 x85 x86 x87 x88 x89 x90 x91 x92 x93 x94 x95 x96 x97 x98 x99 x100 x101 x102 x103 x104 x105 x106 x107 x108 x109 x110 x111 x112 x113 x114 x115 x116 x117 x118 x119 x120 x121 x122 x123 x124 x125 x126 x127 x128 x129 x130 x131 x132 x133 x134 x135 x136 x137 x138 x139 x140 x141 x142 x143 x144 x145 x146 x147 x148 x149 x150 x151 x152 x153 x154 x155 x156 x157 x158 x159 x160 => law_loop w w5 HW5.out (some ⟨g, q, none⟩) r1 r2 n n GA GB L C P1 J1 M1 P2 J2 M2 (by omega) (fun h => ⟨by rw [Hr1.out, if_neg (by omega)], by rw [Hr2.out, if_neg (by omega)]⟩) hT x0 x2 x3 x4 x5 x6 x7 x9 x11 x12 x13 x14 x15 x16 x17 x18 x19 x20 x21 x22 x23 x24 x25 x26 x27 x28 x29 x30 x31 x32 x33 x34 x35 x36 x37 x38 x39 x40 x41 x42 x43 x44 x45 x46 x47 x48 x49 x50 x51 x52 x53 x54 x55 x56 x57 x58 x59 x60 x61 x62 x63 x64 x65 x66 x67 x68 x69 x70 x71 x72 x73 x74 x75 x76 x77 x78 x79 x80 x81 x82 x83 x84 x85 x86 x87 x88 x89 x90 x91 x92 x93 x94 x95 x96 x97 x98 x99 x100 x101 x102 x103 x104 x105 x106 x107 x108 x109 x110 x111 x112 x113 x114 x115 x116 x117 x118 x119 x120 x121 x122 x123 x124 x125 x126 x127 x128 x129 x130 x131 x132 x133 x134 x135 x136 x137 x138 x139 x140 x141 x142 x143 x144 x145 x146 x147 x148 x149 x150 x151 x152 x153 x154 x155 x156 x157 x158 x159 x160
    clear hT HT l2 s2 hm1
    repeat (first | exact fin _ _ _ _ _ _ _ _ _ _ _ _ _ _ _ _ _ _ _ _ _ _ _ _ _ _ _ _ _ _ _ _ _ _ _ _ _ _ _ _ _ _ _ _ _ _ _ _ _ _ _ _ _ _ _ _ _ _ _ _ _ _ _ _ _ _ _ _ _ _ _ _ _ _ _ _ _ _ _ _ _ _ _ _ _ _ _ _ _ _ _ _ _ _ _ _ _ _ _ _ _ _ _ _ _ _ _ _ _ _ _ _ _ _ _ _ _ _ _ _ _ _ _ _ _ _ _ _ _ _ _ _ _ _ _ _ _ _ _ _ _ _ _ _ _ _ _ _ _ _ _ _ _ _ _ _ _ _ | go_step)
  have hcK2 : ¬ c = K := hcK
  go_wp2_with fail
  have call1 := call_any a0 n0 c0 bs (some ⟨g, q, none⟩) n c d w3 Hds.out (by omega) Hn0.out hmax (Hbs.out.below HRb.out Hb0.out) (fun x y h => Nat.lt_of_lt_of_le (Hb0.out x y h) HRb.out.size) Hoff.out (HLs.out.below HRb.out)
  refine call1.mono ?_
  rintro e w4 ⟨GA, AA, rfl, hb4, hR4⟩
  have HB4 : Hid (RowKit.Below w3.heap.size w3 w4) := hb4
  have HR4 : Hid (0 < n → w3.heap.size ≤ GA ∧ ∃ d' arr, PermIn 0 n d d' ∧ SortedIn (ltOf cfL) 0 n d' ∧ Blk w4 GA arr 35 ∧ LocA arr bs d' n) := hR4
  have HW4 : Hid (RowKit.Below w.heap.size w w4) := HRb.out.trans (hb4.mono HRb.out.size)
  clear call1 hb4 hR4
  obtain ⟨r1, hr1⟩ : ∃ r1, r1 = (if n = 0 then none else some (⟨GA, 0, none⟩ : Addr)) := ⟨_, rfl⟩
  have Hr1 : Hid (r1 = (if n = 0 then none else some (⟨GA, 0, none⟩ : Addr))) := hr1
  rw [← hr1]
  clear hr1
  have call2 := call_any a0 n0 c0 bs (some ⟨w.heap.size, 0, none⟩) n n (turned d K) w4 (size_turned d Hds.out hKn) (by omega) Hn0.out hmax (Hbs.out.below HW4.out Hb0.out) (fun x y h => Nat.lt_of_lt_of_le (Hb0.out x y h) HW4.out.size) (fun i hi => by obtain ⟨j, hj, e⟩ := turned_mem d Hds.out hKn i hi; rw [e]; exact Hoff.out j hj) (HRl.out.below HB4.out)
  dsimp only
  go_wp2_with fail
  refine call2.mono ?_
  rintro e w5 ⟨GB, AB, rfl, hb5, hR5⟩
  have HW5 : Hid (RowKit.Below w.heap.size w w5) := HW4.out.trans (hb5.mono HW4.out.size)
  have HT : Hid (∃ L C P1 J1 M1 P2 J2 M2, Twin w5 GA GB n L C P1 J1 M1 P2 J2 M2) := by
    by_cases h0 : 0 < n
    · obtain ⟨_, x, arr1, px, sx, B1, A1⟩ := HR4.out h0
      obtain ⟨_, y, arr2, py, sy, B2, A2⟩ := hR5 h0
      exact ⟨_, _, _, _, _, _, _, _, twins Hds.out hKn px sx (B1.below hb5 B1.lt) A1 py sy B2 A2⟩
    · exact ⟨fun _ => 0, fun _ => 0, fun _ => default, fun _ => false, fun _ => default, fun _ => default, fun _ => false, fun _ => default, ⟨fun j hj => by omega, fun j hj => by omega, fun j hj => by omega, fun j hj => by omega, fun j hj => by omega⟩⟩
  clear call2 hb5 hR5
  obtain ⟨r2, hr2⟩ : ∃ r2, r2 = (if n = 0 then none else some (⟨GB, 0, none⟩ : Addr)) := ⟨_, rfl⟩
  have Hr2 : Hid (r2 = (if n = 0 then none else some (⟨GB, 0, none⟩ : Addr))) := hr2
  rw [← hr2]
  clear hr2
  dsimp only
  obtain ⟨L, C, P1, J1, M1, P2, J2, M2, hT⟩ := HT.out
  have fin := fun x0 x2 x3 x4 x5 x6 x7 x9 x11 x12 x13 x14 x15 x16 x17 x18 x19 x20 x21 x22 x23 x24 x25 x26 x27 x28 x29 x30 x31 x32 x33 x34 x35 x36 x37 x38 x39 x40 x41 x42 x43 x44 x45 x46 x47 x48 x49 x50 x51 x52 x53 x54 x55 x56 x57 x58 x59 x60 x61 x62 x63 x64 x65 x66 x67 x68 x69 x70 x71 x72 x73 x74 x75 x76 x77 x78 x79 x80 x81 x82 x83 x84 x85 x86 x87 x88 x89 x90 x91 x92 x93 x94 x95 x96 x97 x98 x99 x100 x101 x102 x103 x104 x105 x106 x107 x108 x109 x110 x111 x112 x113 x114 x115 x116 x117 x118 x119 x120 x121 x122 x123 x124 x125 x126 x127 x128 x129 x130 x131 x132 x133 x134 x135 x136 x137 x138 x139 x140 x141 x142 x143 x144 x145 x146 x147 x148 x149 x150 x151 x152 x153 x154 x155 x156 x157 x158 x159 x160 => law_loop w w5 HW5.out (some ⟨g, q, none⟩) r1 r2 n c GA GB L C P1 J1 M1 P2 J2 M2 (by omega) (fun h => ⟨by rw [Hr1.out, if_neg (by omega)], by rw [Hr2.out, if_neg (by omega)]⟩) hT x0 x2 x3 x4 x5 x6 x7 x9 x11 x12 x13 x14 x15 x16 x17 x18 x19 x20 x21 x22 x23 x24 x25 x26 x27 x28 x29 x30 x31 x32 x33 x34 x35 x36 x37 x38 x39 x40 x41 x42 x43 x44 x45 x46 x47 x48 x49 x50 x51 x52 x53 x54 x55 x56 x57 x58 x59 x60 x61 x62 x63 x64 x65 x66 x67 x68 x69 x70 x71 x72 x73 x74 x75 x76 x77 x78 x79 x80 x81 x82 x83 x84 x85 x86 x87 x88 x89 x90 x91 x92 x93 x94 x95 x96 x97 x98 x99 x100 x101 x102 x103 x104 x105 x106 x107 x108 x109 x110 x111 x112 x113 x114 x115 x116 x117 x118 x119 x120 x121 x122 x123 x124 x125 x126 x127 x128 x129 x130 x131 x132 x133 x134 x135 x136 x137 x138 x139 x140 x141 x142 x143 x144 x145 x146 x147 x148 x149 x150 x151 x152 x153 x154 x155 x156 x157 x158 x159 x160
  clear hT HT l1 s1 l2 s2 hm1
  repeat (first | exact fin _ _ _ _ _ _ _ _ _ _ _ _ _ _ _ _ _ _ _ _ _ _ _ _ _ _ _ _ _ _ _ _ _ _ _ _ _ _ _ _ _ _ _ _ _ _ _ _ _ _ _ _ _ _ _ _ _ _ _ _ _ _ _ _ _ _ _ _ _ _ _ _ _ _ _ _ _ _ _ _ _ _ _ _ _ _ _ _ _ _ _ _ _ _ _ _ _ _ _ _ _ _ _ _ _ _ _ _ _ _ _ _ _ _ _ _ _ _ _ _ _ _ _ _ _ _ _ _ _ _ _ _ _ _ _ _ _ _ _ _ _ _ _ _ _ _ _ _ _ _ _ _ _ _ _ _ _ _ | go_step)

set_option maxHeartbeats 8000000 in
set_option maxRecDepth 100000 in
theorem main_none (a0 : Option Addr) (n0 c0 : Nat) (bs : List UInt8) (k : Int) (w : World) (hn0 : bs.length = n0) (hbs : BsAt w a0 bs) (hb0 : ∀ g q, a0 = some ⟨g, q, none⟩ → g < w.heap.size) :
    Calls Try.prog 5 #[.slice a0 n0 c0, .slice none 0 0, .int .i64 k] w fun e w' => e = .returned (.bool true) ∧ RowKit.Below w.heap.size w w' := by
  have Hn0 : Hid (bs.length = n0) := hn0
  have Hbs : Hid (BsAt w a0 bs) := hbs
  have Hb0 : Hid (∀ g q, a0 = some ⟨g, q, none⟩ → g < w.heap.size) := hb0
  clear hn0 hbs hb0
  go_enter Try.func5, Try.ntmps5
  go_wp2_with fail
  refine (zz_any a0 n0 c0 none 0 0 [] k w rfl (fun j hj => by simp at hj)).mono ?_
  rintro e w' ⟨b, rfl, rfl, -⟩
  cases b
  · go_wp2_with fail
    go_ret
    exact ⟨rfl, RowKit.Below.refl _ _⟩
  go_wp2_with fail
  refine (fit_any a0 n0 c0 bs none 0 0 [] w' Hn0.out rfl (fun j hj => by simp at hj)).mono ?_
  rintro e w ⟨b, rfl, rfl, hf⟩
  cases b
  · go_wp2_with fail
    go_ret
    exact ⟨rfl, RowKit.Below.refl _ _⟩
  have hmax : n0 ≤ 1048576 := by rw [← Hn0.out]; exact (hf rfl).1
  clear hf
  by_cases hk0 : k < 0
  · go_wp2_with fail
    go_ret
    exact ⟨rfl, RowKit.Below.refl _ _⟩
  by_cases hkn : (0 : Int) < k
  · go_wp2_with fail
    go_ret
    exact ⟨rfl, RowKit.Below.refl _ _⟩
  obtain rfl : k = 0 := by omega
  have hm1 : (Instr.makeSlice 26 (.int .i64 0) (.int .i64 0)).run Try.prog w = .ok (.slice (some ⟨w.heap.size, 0, none⟩) 0 0) (w.alloc (.cells (madeCells #[.int .i64 0, .int .i64 0, .int .i64 0, .string ⟨#[]⟩, .bool false, .string ⟨#[]⟩] (0 * 6)) 50)) := mk26' 0 (by omega) w
  have HRb : Hid (RowKit.Below w.heap.size w (w.alloc (.cells (madeCells #[.int .i64 0, .int .i64 0, .int .i64 0, .string ⟨#[]⟩, .bool false, .string ⟨#[]⟩] (0 * 6)) 50))) := (RowKit.Below.refl _ _).alloc (Nat.le_refl _) _
  generalize w.alloc (.cells (madeCells #[.int .i64 0, .int .i64 0, .int .i64 0, .string ⟨#[]⟩, .bool false, .string ⟨#[]⟩] (0 * 6)) 50) = w3 at *
  clear hk0 hkn
  go_wp2_with fail
  have call1 := call_any a0 n0 c0 bs none 0 0 #[] w3 rfl (by omega) Hn0.out hmax (Hbs.out.below HRb.out Hb0.out) (fun x y h => Nat.lt_of_lt_of_le (Hb0.out x y h) HRb.out.size) (fun i hi => by omega) (fun i hi => by simp at hi)
  refine call1.mono ?_
  rintro e w4 ⟨GA, AA, rfl, hb4, -⟩
  have HW4 : Hid (RowKit.Below w.heap.size w w4) := HRb.out.trans (hb4.mono HRb.out.size)
  clear call1 hb4
  rw [if_pos rfl]
  have call2 := call_any a0 n0 c0 bs (some ⟨w.heap.size, 0, none⟩) 0 0 #[] w4 rfl (by omega) Hn0.out hmax (Hbs.out.below HW4.out Hb0.out) (fun x y h => Nat.lt_of_lt_of_le (Hb0.out x y h) HW4.out.size) (fun i hi => by omega) (fun i hi => by simp at hi)
  dsimp only
  go_wp2_with fail
  refine call2.mono ?_
  rintro e w5 ⟨GB, AB, rfl, hb5, -⟩
  have HW5 : Hid (RowKit.Below w.heap.size w w5) := HW4.out.trans (hb5.mono HW4.out.size)
  clear call2 hb5
  rw [if_pos rfl]
  dsimp only
  have fin := fun x0 x2 x3 x4 x5 x6 x7 x9 x11 x12 x13 x14 x15 x16 x17 x18 x19 x20 x21 x22 x23 x24 x25 x26 x27 x28 x29 x30 x31 x32 x33 x34 x35 x36 x37 x38 x39 x40 x41 x42 x43 x44 x45 x46 x47 x48 x49 x50 x51 x52 x53 x54 x55 x56 x57 x58 x59 x60 x61 x62 x63 x64 x65 x66 x67 x68 x69 x70 x71 x72 x73 x74 x75 x76 x77 x78 x79 x80 x81 x82 x83 x84 x85 x86 x87 x88 x89 x90 x91 x92 x93 x94 x95 x96 x97 x98 x99 x100 x101 x102 x103 x104 x105 x106 x107 x108 x109 x110 x111 x112 x113 x114 x115 x116 x117 x118 x119 x120 x121 x122 x123 x124 x125 x126 x127 x128 x129 x130 x131 x132 x133 x134 x135 x136 x137 x138 x139 x140 x141 x142 x143 x144 x145 x146 x147 x148 x149 x150 x151 x152 x153 x154 x155 x156 x157 x158 x159 x160 => law_loop w w5 HW5.out none none none 0 0 GA GB (fun _ => 0) (fun _ => 0) (fun _ => default) (fun _ => false) (fun _ => default) (fun _ => default) (fun _ => false) (fun _ => default) (by omega) (fun h => by omega) ⟨fun j hj => by omega, fun j hj => by omega, fun j hj => by omega, fun j hj => by omega, fun j hj => by omega⟩ x0 x2 x3 x4 x5 x6 x7 x9 x11 x12 x13 x14 x15 x16 x17 x18 x19 x20 x21 x22 x23 x24 x25 x26 x27 x28 x29 x30 x31 x32 x33 x34 x35 x36 x37 x38 x39 x40 x41 x42 x43 x44 x45 x46 x47 x48 x49 x50 x51 x52 x53 x54 x55 x56 x57 x58 x59 x60 x61 x62 x63 x64 x65 x66 x67 x68 x69 x70 x71 x72 x73 x74 x75 x76 x77 x78 x79 x80 x81 x82 x83 x84 x85 x86 x87 x88 x89 x90 x91 x92 x93 x94 x95 x96 x97 x98 x99 x100 x101 x102 x103 x104 x105 x106 x107 x108 x109 x110 x111 x112 x113 x114 x115 x116 x117 x118 x119 x120 x121 x122 x123 x124 x125 x126 x127 x128 x129 x130 x131 x132 x133 x134 x135 x136 x137 x138 x139 x140 x141 x142 x143 x144 x145 x146 x147 x148 x149 x150 x151 x152 x153 x154 x155 x156 x157 x158 x159 x160
  clear hm1
  repeat (first | exact fin _ _ _ _ _ _ _ _ _ _ _ _ _ _ _ _ _ _ _ _ _ _ _ _ _ _ _ _ _ _ _ _ _ _ _ _ _ _ _ _ _ _ _ _ _ _ _ _ _ _ _ _ _ _ _ _ _ _ _ _ _ _ _ _ _ _ _ _ _ _ _ _ _ _ _ _ _ _ _ _ _ _ _ _ _ _ _ _ _ _ _ _ _ _ _ _ _ _ _ _ _ _ _ _ _ _ _ _ _ _ _ _ _ _ _ _ _ _ _ _ _ _ _ _ _ _ _ _ _ _ _ _ _ _ _ _ _ _ _ _ _ _ _ _ _ _ _ _ _ _ _ _ _ _ _ _ _ _ | go_step)
end Go.Proofs.Qxb6614456a
