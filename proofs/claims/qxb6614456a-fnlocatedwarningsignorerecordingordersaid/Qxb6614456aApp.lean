/-
  THE WALK of ZZlocatedWarnings.
-/
import Derived.Test.Qxb6614456aZz
namespace Go.Proofs.Qxb6614456a
open Go Go.RowKit Go.Sort Go.Shelf Go.Lib

theorem info65 : (Try.prog.info? 65).map (fun i => (i.zero, i.size, i.bytes)) = some (some (.agg #[.int .i64 0, .int .i64 0, .int .i64 0, .string ⟨#[]⟩, .bool false, .string ⟨#[]⟩]), 6, 64) := by kernel_rfl

/-- The six rows that tell the warnings. -/
structure Rows6 (w : World) (o0 o1 o2 o3 o4 o5 : Nat) (d : Array Lp) (i : Nat) : Prop where
  c0 : w.cell? ⟨o0, i, none⟩ = some (.int .i64 (d[i]!.off.val : Int))
  c1 : w.cell? ⟨o1, i, none⟩ = some (.int .i64 d[i]!.line)
  c2 : w.cell? ⟨o2, i, none⟩ = some (.int .i64 d[i]!.col)
  c3 : w.cell? ⟨o3, i, none⟩ = some (.string d[i]!.path)
  c4 : w.cell? ⟨o4, i, none⟩ = some (.bool d[i]!.nj)
  c5 : w.cell? ⟨o5, i, none⟩ = some (.string d[i]!.msg)

theorem Rows6.below {w w' : World} {o0 o1 o2 o3 o4 o5 : Nat} {d : Array Lp} {i : Nat} (h : Rows6 w o0 o1 o2 o3 o4 o5 d i) (hb : RowKit.Below w.heap.size w w') : Rows6 w' o0 o1 o2 o3 o4 o5 d i := by
  obtain ⟨h0, h1, h2, h3, h4, h5⟩ := h
  constructor
  · rw [hb.cell (World.block_lt_of_cell? w _ h0)]; exact h0
  · rw [hb.cell (World.block_lt_of_cell? w _ h1)]; exact h1
  · rw [hb.cell (World.block_lt_of_cell? w _ h2)]; exact h2
  · rw [hb.cell (World.block_lt_of_cell? w _ h3)]; exact h3
  · rw [hb.cell (World.block_lt_of_cell? w _ h4)]; exact h4
  · rw [hb.cell (World.block_lt_of_cell? w _ h5)]; exact h5

/-- The cells of the first i problems. -/
def flat6 (d : Array Lp) (i : Nat) : List Value := (List.range i).flatMap fun j => encL d[j]!

theorem flat6_succ (d : Array Lp) (i : Nat) : flat6 d (i + 1) = flat6 d i ++ encL d[i]! := by simp [flat6, List.range_succ]
theorem flat6_length (d : Array Lp) : ∀ i, (flat6 d i).length = i * 6
  | 0 => rfl
  | i + 1 => by rw [flat6_succ, List.length_append, flat6_length d i]; simp [encL]; omega
theorem flat6_get (d : Array Lp) : ∀ n t, t < n * 6 → (flat6 d n)[t]? = (encL d[t / 6]!)[t % 6]?
  | 0, t, h => by omega
  | n + 1, t, h => by
    rw [flat6_succ]
    by_cases c : t < n * 6
    · rw [List.getElem?_append_left (by rw [flat6_length]; exact c)]
      exact flat6_get d n t c
    · rw [List.getElem?_append_right (by rw [flat6_length]; omega), flat6_length]
      have e1 : t / 6 = n := by omega
      have e2 : t - n * 6 = t % 6 := by omega
      rw [e1, e2]

theorem holds_own {w : World} {base g cap n : Nat} {d : Array Lp} (hn : d.size = n) (h : w.ownsRow base 65 6 (.slice (some ⟨g, 0, none⟩) n cap) n (flat6 d n)) : HoldsK encL 6 w g 0 d := by
  intro t ht
  rw [size_flatK, hn] at ht
  rw [Nat.zero_add, h.cellAt t ht, h.frozenAt t, flat6_get d n t ht, get_flatK encL 6 d t (by rw [hn]; exact ht)]
  have h6 : t % 6 < (encL d[t / 6]!).length := by simp [encL]; omega
  rw [getElem!_pos (encL d[t / 6]!) (t % 6) h6, List.getElem?_eq_getElem h6]
  exact ⟨rfl, rfl⟩

section
variable {P : Program} {ops : Array Oper} {Q : Exit → Act → World → Prop} {md : Region.Mode} {S : World → Prop}

/-- An operation of a drawn region is taken first; its slot written out. -/
theorem takeH {i : Nat} {d : Tmp} {oi : Oper} {v : Value} {fuel : Nat} {listed : Array Bool} {a : Act} {w : World} (hi : ops[i]? = some oi) (hd : oi.dst = some d)
    (hs : Region.noSelect ops = true) (hf : Region.free md ops listed i = true) (hr : (Region.ready md ops listed).contains i = true)
    (hQ : ∀ c a w, Q (.panic c) (a.put oi.dst v) w → Q (.panic c) a w) (hy : YieldsIf P ops S oi v a) (hS : S w)
    (h : wpAnyH P md ops Q S fuel (listed.setIfInBounds i true) { a with tmps := a.tmps.setIfInBounds d v } w) : wpAnyH P md ops Q S (fuel + 1) listed a w :=
  wpAnyH_take hi hs hf hr hQ hy hS (by rw [hd]; exact h)

/-- One operation alone may come up. -/
theorem stepH {i : Nat} {oi : Oper} {fuel : Nat} {listed : Array Bool} {a : Act} {w : World} (hr : Region.ready md ops listed = [i]) (hi : ops[i]? = some oi) (hg : oi.guard = none)
    (h : Oper.wp P oi a w (fun a' w' => S w' ∧ wpAnyH P md ops Q S fuel (listed.setIfInBounds i true) a' w') Q) : wpAnyH P md ops Q S (fuel + 1) listed a w := by
  refine wpAnyH_all hr (by simp) fun j hj => ?_
  obtain rfl : j = i := by simpa using hj
  unfold wpOp
  simp only [hi]
  rw [if_pos (by simp [Region.wanted, hg])]
  exact .inl h

/-- One of two operations may come up. -/
theorem step2H {i j : Nat} {oi oj : Oper} {fuel : Nat} {listed : Array Bool} {a : Act} {w : World} (hr : Region.ready md ops listed = [i, j]) (hi : ops[i]? = some oi) (hg : oi.guard = none) (hj : ops[j]? = some oj) (hgj : oj.guard = none)
    (h : Oper.wp P oi a w (fun a' w' => S w' ∧ wpAnyH P md ops Q S fuel (listed.setIfInBounds i true) a' w') Q)
    (h' : Oper.wp P oj a w (fun a' w' => S w' ∧ wpAnyH P md ops Q S fuel (listed.setIfInBounds j true) a' w') Q) : wpAnyH P md ops Q S (fuel + 1) listed a w := by
  refine wpAnyH_all hr (by simp) fun k hk => ?_
  have hk' : k = i ∨ k = j := by simpa using hk
  unfold wpOp
  rcases hk' with rfl | rfl
  · simp only [hi]
    rw [if_pos (by simp [Region.wanted, hg])]
    exact .inl h
  · simp only [hj]
    rw [if_pos (by simp [Region.wanted, hgj])]
    exact .inl h'

/-- An operation that yields a value. -/
theorem wp_yields {o : Oper} {d : Tmp} {a : Act} {w w' : World} {v : Value} {K : Act → World → Prop} (hd : o.dst = some d) (h : (execOp a.eval o).run P w = .ok (.value v) w') (hK : K { a with tmps := a.tmps.setIfInBounds d v } w') : o.wp P a w K Q := by
  unfold Oper.wp
  rw [h]
  show K (a.put o.dst v) w'
  rw [hd]
  exact hK
/-- An operation that yields none. -/
theorem wp_skips {o : Oper} {a : Act} {w w' : World} {K : Act → World → Prop} (hd : o.dst = none) (h : (execOp a.eval o).run P w = .ok .skip w') (hK : K a w') : o.wp P a w K Q := by
  unfold Oper.wp
  rw [h]
  show K (a.put o.dst undef) w'
  rw [hd]
  exact hK
theorem wp_yields0 {o : Oper} {a : Act} {w w' : World} {v : Value} {K : Act → World → Prop} (hd : o.dst = none) (h : (execOp a.eval o).run P w = .ok (.value v) w') (hK : K a w') : o.wp P a w K Q := by
  unfold Oper.wp
  rw [h]
  show K (a.put o.dst v) w'
  rw [hd]
  exact hK
end

/-- What stands at the head of each round of the recording loop. -/
structure AppInv (w : World) (B : Nat) (a0 : Option Addr) (n0 c0 : Nat) (d : Array Lp) (i : Nat) (wr : World) : Prop where
  own : ∃ v, Blk wr B #[.slice a0 n0 c0, .slice none 0 0, v] 63 ∧ wr.ownsRow (B + 1) 65 6 v i (flat6 d i) ∧ (i = 0 → v = .slice none 0 0)
  bel : RowKit.Below B w wr

theorem appInv_step {w wr w1 : World} {a0 : Option Addr} {n0 c0 : Nat} {d : Array Lp} {i gg cap : Nat} {v : Value} {o : Obj} (hB : Blk wr w.heap.size #[.slice a0 n0 c0, .slice none 0 0, v] 63) (hb : RowKit.Below w.heap.size w wr)
    (hlo : ∀ k, v.ownBlock = some k → w.heap.size + 1 ≤ k ∧ k < wr.heap.size) (hg : (wr.alloc o).drew.grownBy w1 v.ownBlock) (ho : w1.ownsRow (w.heap.size + 1) 65 6 (.slice (some ⟨gg, 0, none⟩) (i + 1) cap) (i + 1) (flat6 d i ++ encL d[i]!)) :
    AppInv w w.heap.size a0 n0 c0 d (i + 1) (w1.setCell ⟨w.heap.size, 2, none⟩ (.slice (some ⟨gg, 0, none⟩) (i + 1) cap)) := by
  have hBl := hB.lt
  have hB1 : Blk w1 w.heap.size #[.slice a0 n0 c0, .slice none 0 0, v] 63 := (hg.block w.heap.size (by show w.heap.size < (wr.alloc o).heap.size; simp; omega) (fun h => by have := (hlo _ h.symm).1; omega)).trans ((hB.alloc o).drew)
  refine ⟨⟨_, hB1.set 2 _, ?_, fun h => by omega⟩, ?_⟩
  · rw [flat6_succ]
    exact ownsRow_setCell_below ho (by show w.heap.size < w.heap.size + 1; omega) _
  · exact (((hb.alloc (by omega) o).drew).grown hg (by show w.heap.size ≤ (wr.alloc o).heap.size; simp; omega) (fun k hk => by have := (hlo k hk).1; omega)).setCell (p := ⟨w.heap.size, 2, none⟩) (Nat.le_refl _) _

/-- What the call of locatedWarnings hands back. -/
def CallPost (wr : World) (B : Nat) (a0 : Option Addr) (n0 c0 : Nat) (v : Value) (n : Nat) (bs : List UInt8) (d : Array Lp) (e : Ending) (w2 : World) : Prop :=
  ∃ r, e = .returned r ∧ Blk w2 B #[.slice a0 n0 c0, .slice none 0 0, v] 63 ∧ RowKit.Below B wr w2 ∧ (∀ j, j < n → ∃ g cap z, v = .slice (some ⟨g, 0, none⟩) n cap ∧ w2.cell? ⟨g, j * 6, none⟩ = some (.int .i64 z)) ∧
    ∃ G, r = .slice (if n = 0 then none else some ⟨G, 0, none⟩) n n ∧ (0 < n → wr.heap.size ≤ G ∧ ∃ d' arr, PermIn 0 n d d' ∧ SortedIn (ltOf cfL) 0 n d' ∧ Blk w2 G arr 35 ∧ LocA arr bs d' n)

theorem call28 (B : Nat) (a0 : Option Addr) (n0 c0 : Nat) (bs : List UInt8) (v : Value) (n : Nat) (d : Array Lp) (wr : World) (hB : Blk wr B #[.slice a0 n0 c0, .slice none 0 0, v] 63) (hown : wr.ownsRow (B + 1) 65 6 v n (flat6 d n))
    (hz : n = 0 → v = .slice none 0 0) (hn : d.size = n) (hn2 : n ≤ 1048576) (hn0 : bs.length = n0) (hmax : n0 ≤ 1048576) (hbs : BsAt wr a0 bs) (hB0 : ∀ g q, a0 = some ⟨g, q, none⟩ → g < B) (hoff : ∀ i, i < n → d[i]!.off.val ≤ n0) :
    Calls Try.prog 28 #[.pointer (some ⟨B, 0, none⟩)] wr (CallPost wr B a0 n0 c0 v n bs d) := by
  by_cases h0 : n = 0
  · obtain rfl := hz h0
    refine (located_nil B a0 n0 c0 wr hB).mono ?_
    rintro e w' ⟨rfl, hb⟩
    exact ⟨_, rfl, hB.below hb hB.lt, hb.mono (Nat.le_of_lt hB.lt), fun j hj => by omega, 0, by rw [if_pos h0, h0], fun h => by omega⟩
  · obtain ⟨g, cap, rfl, hg, hgw⟩ := hown.form (by omega)
    have hH := holds_own hn hown
    have hbel : RowKit.Below wr.heap.size wr wr.drew := below_drewN' (RowKit.Below.refl _ _) 1
    have hcall : Calls Try.prog 31 #[.slice a0 n0 c0, .slice (some ⟨g, 0, none⟩) n cap] wr.drew (LocPost wr g n bs d) :=
      (locate_any a0 n0 c0 bs g cap n d wr.drew hn0 hmax hn (by omega) hn2 (hbs.below hbel (fun x y h => by have := hB0 x y h; have := hB.lt; omega)) (fun x y h => by have := hB0 x y h; omega) hH hgw hoff).mono
        fun e w' ⟨G, d', arr, h1, h2, h3, h4⟩ => ⟨G, d', arr, h1, h2, ⟨h3.os, h3.tape, h3.output, h3.size, h3.block⟩, h4⟩
    refine (located_any B a0 n0 c0 bs g cap n d wr hB (by omega) hcall).mono ?_
    rintro e w' ⟨G, d', arr, rfl, h2, h3, h4, h5, h6, h7, h8⟩
    refine ⟨_, rfl, hB.below h3 (by omega), h3.mono (by omega), fun j hj => ⟨g, cap, _, rfl, (encL_cells h6 (by rw [h4.1, hn]; exact hj)).1⟩, G, by rw [if_neg h0], fun _ => ⟨h2, d', arr, h4, h5, h7, h8⟩⟩

theorem info3 : (Try.prog.info? 3).map (fun i => (i.zero, i.size, i.bytes)) = some (some (.int .i64 0), 1, 8) := by kernel_rfl
theorem mk30 (n : Nat) (h : n ≤ 1048576) : ∀ w, (Instr.makeSlice 30 (.int .i64 (n : Int)) (.int .i64 (n : Int))).run Try.prog w = .ok (.slice (some ⟨w.heap.size, 0, none⟩) n n) (w.alloc (.cells (madeCells #[.int .i64 0] n) 3)) :=
  run_make_row' (P := Try.prog) 30 3 (.int .i64 0) 8 Try.underlying30 info3 rfl .i64 .i64 n (by omega) (by omega)

/-- What ZZlocatedWarnings hands back. -/
def ZzPost (w : World) (n : Nat) (bs : List UInt8) (d : Array Lp) (e : Ending) (w' : World) : Prop := ∃ G A, e = .returned (.tuple #[.slice (if n = 0 then none else some ⟨G, 0, none⟩) n n, .slice (some ⟨A, 0, none⟩) n n]) ∧ RowKit.Below w.heap.size w w' ∧ (0 < n → w.heap.size ≤ G ∧ ∃ d' arr, PermIn 0 n d d' ∧ SortedIn (ltOf cfL) 0 n d' ∧ Blk w' G arr 35 ∧ LocA arr bs d' n)

set_option maxHeartbeats 8000000 in
set_option maxRecDepth 100000 in
theorem zz_loop (a0 : Option Addr) (n0 c0 : Nat) (bs : List UInt8) (o0 o1 o2 o3 o4 o5 n : Nat) (d : Array Lp) (w : World) (hn : d.size = n) (hn2 : n ≤ 1048576) (hn0 : bs.length = n0) (hmax : n0 ≤ 1048576) (hbs : BsAt w a0 bs) (hb0 : ∀ g q, a0 = some ⟨g, q, none⟩ → g < w.heap.size) (hoff : ∀ i, i < n → d[i]!.off.val ≤ n0) (hr : ∀ i, i < n → Rows6 w o0 o1 o2 o3 o4 o5 d i) :
    Calls Try.prog 25 #[.slice a0 n0 c0, .slice (some ⟨o0, 0, none⟩) n n, .slice (some ⟨o1, 0, none⟩) n n, .slice (some ⟨o2, 0, none⟩) n n, .slice (some ⟨o3, 0, none⟩) n n, .slice (some ⟨o4, 0, none⟩) n n, .slice (some ⟨o5, 0, none⟩) n n] w (ZzPost w n bs d) := by
  have Hn : Hid (d.size = n) := hn
  have Hr : Hid (∀ i, i < n → Rows6 w o0 o1 o2 o3 o4 o5 d i) := hr
  obtain ⟨i0, hi0, hz0, hz1, hz2⟩ := info_parts info65
  have Hn0 : Hid (bs.length = n0) := hn0
  have Hbs : Hid (BsAt w a0 bs) := hbs
  have Hb0 : Hid (∀ g q, a0 = some ⟨g, q, none⟩ → g < w.heap.size) := hb0
  have Hoff : Hid (∀ i, i < n → d[i]!.off.val ≤ n0) := hoff
  clear hn hr hn0 hbs hb0 hoff
  go_enter Try.func25, Try.ntmps25
  go_wp2_with fail
  have HI : Hid (AppInv w w.heap.size a0 n0 c0 d 0 (w.alloc (.cells #[.slice a0 n0 c0, .slice none 0 0, .slice none 0 0] 63))) := ⟨⟨_, Blk.new _ _ _, ⟨rfl, .inl ⟨rfl, rfl⟩⟩, fun _ => rfl⟩, (RowKit.Below.refl _ _).alloc (Nat.le_refl _) _⟩
  go_loopg [26] n (fun kx s26 wr => ∃ i : Nat, s26 = .int .i64 i ∧ i ≤ n ∧ n - i ≤ kx ∧ Hid (AppInv w w.heap.size a0 n0 c0 d i wr))
  case atStart => exact ⟨0, rfl, by omega, by omega, HI.out⟩
  case round =>
    clear HI
    obtain ⟨i, rfl, hin, hkx, HI⟩ := hrel
    by_cases hlt : i < n
    · have hlt' : (i : Int) < n := by omega
      have hi0' : (0 : Int) ≤ (i : Int) := Int.natCast_nonneg _
      obtain ⟨v, hB, hown, -⟩ := HI.out.own
      obtain ⟨r0, r1, r2, r3, r4, r5⟩ := (Hr.out i hlt).below HI.out.bel
      have b0 := World.block_lt_of_cell? w _ (Hr.out i hlt).c0
      have b1 := World.block_lt_of_cell? w _ (Hr.out i hlt).c1
      have b2 := World.block_lt_of_cell? w _ (Hr.out i hlt).c2
      have b3 := World.block_lt_of_cell? w _ (Hr.out i hlt).c3
      have b4 := World.block_lt_of_cell? w _ (Hr.out i hlt).c4
      have b5 := World.block_lt_of_cell? w _ (Hr.out i hlt).c5
      have hBw := hB.lt
      have p2 := hB.cell 2
      have f2 := hB.frozen 2
      simp at p2 b0 b1 b2 b3 b4 b5
      have hlo : ∀ k, v.ownBlock = some k → w.heap.size + 1 ≤ k ∧ k < wr.heap.size := hown.lt
      have nB : some w.heap.size ≠ v.ownBlock := fun h => by have := (hlo _ h.symm).1; omega
      have n0' : some o0 ≠ v.ownBlock := fun h => by have := (hlo _ h.symm).1; omega
      have n1' : some o1 ≠ v.ownBlock := fun h => by have := (hlo _ h.symm).1; omega
      have n2' : some o2 ≠ v.ownBlock := fun h => by have := (hlo _ h.symm).1; omega
      have n3' : some o3 ≠ v.ownBlock := fun h => by have := (hlo _ h.symm).1; omega
      have n4' : some o4 ≠ v.ownBlock := fun h => by have := (hlo _ h.symm).1; omega
      have n5' : some o5 ≠ v.ownBlock := fun h => by have := (hlo _ h.symm).1; omega
      have HB : Hid (Blk wr w.heap.size #[.slice a0 n0 c0, .slice none 0 0, v] 63) := hB
      have Hbel : Hid (RowKit.Below w.heap.size w wr) := HI.out.bel
      have Hlo : Hid (∀ k, v.ownBlock = some k → w.heap.size + 1 ≤ k ∧ k < wr.heap.size) := hlo
      have Hown : Hid (wr.ownsRow (w.heap.size + 1) 65 6 v i (flat6 d i)) := hown
      have HS : Hid (flat6 d (i + 1) = flat6 d i ++ encL d[i]!) := flat6_succ d i
      obtain ⟨H, hH⟩ : ∃ H, H = w.heap.size := ⟨_, rfl⟩
      have ne0 : o0 ≠ w.heap.size := by omega
      have ne1 : o1 ≠ w.heap.size := by omega
      have ne2 : o2 ≠ w.heap.size := by omega
      have ne3 : o3 ≠ w.heap.size := by omega
      have ne4 : o4 ≠ w.heap.size := by omega
      have ne5 : o5 ≠ w.heap.size := by omega
      have pz : ∀ o, (wr.alloc o).drew.cell? ⟨w.heap.size, 2, none⟩ = some v := fun o => by rw [Blk.cell (t := 63) ((hB.alloc o).drew)]; rfl
      have fz : ∀ o, (wr.alloc o).drew.frozen? ⟨w.heap.size, 2, none⟩ = false := fun o => (hB.alloc o).frozen 2
      clear hB hlo hown HI
      go_wp2_with fail
      refine wp_region_held_drew (S := (fun w' => w'.cell? ⟨o0, i, none⟩ = some (.int .i64 (d[i]!.off.val : Int)) ∧ w'.cell? ⟨o1, i, none⟩ = some (.int .i64 d[i]!.line) ∧ w'.cell? ⟨o2, i, none⟩ = some (.int .i64 d[i]!.col) ∧ w'.cell? ⟨o3, i, none⟩ = some (.string d[i]!.path) ∧ w'.cell? ⟨o4, i, none⟩ = some (.bool d[i]!.nj) ∧ w'.cell? ⟨o5, i, none⟩ = some (.string d[i]!.msg))) (by kernel_rfl) ?_ (fun hHeld => ?_)
      · go_keep
      refine takeH (i := 0) (d := 29) (v := ?_) rfl rfl (by kernel_rfl) (by kernel_rfl) (by kernel_rfl) (fun _ _ _ h => h) (Or.inl ⟨by rfl, ?_⟩) (by assumption) ?_
      rotate_left
      · (intro w hSw; (try dsimp only at hSw); go_simp; try (with_reducible rfl))
      simp only [List.setIfInBounds_toArray, List.set_cons_zero, List.set_cons_succ]
      refine takeH (i := 1) (d := 30) (v := ?_) rfl rfl (by kernel_rfl) (by kernel_rfl) (by kernel_rfl) (fun _ _ _ h => h) (Or.inl ⟨by rfl, ?_⟩) (by assumption) ?_
      rotate_left
      · (intro w hSw; (try dsimp only at hSw); go_simp; try (with_reducible rfl))
      simp only [List.setIfInBounds_toArray, List.set_cons_zero, List.set_cons_succ]
      refine takeH (i := 2) (d := 31) (v := ?_) rfl rfl (by kernel_rfl) (by kernel_rfl) (by kernel_rfl) (fun _ _ _ h => h) (Or.inl ⟨by rfl, ?_⟩) (by assumption) ?_
      rotate_left
      · (intro w hSw; (try dsimp only at hSw); go_simp; try (with_reducible rfl))
      simp only [List.setIfInBounds_toArray, List.set_cons_zero, List.set_cons_succ]
      refine takeH (i := 3) (d := 32) (v := ?_) rfl rfl (by kernel_rfl) (by kernel_rfl) (by kernel_rfl) (fun _ _ _ h => h) (Or.inl ⟨by rfl, ?_⟩) (by assumption) ?_
      rotate_left
      · (intro w hSw; (try dsimp only at hSw); go_simp; try (with_reducible rfl))
      simp only [List.setIfInBounds_toArray, List.set_cons_zero, List.set_cons_succ]
      refine takeH (i := 5) (d := 34) (v := ?_) rfl rfl (by kernel_rfl) (by kernel_rfl) (by kernel_rfl) (fun _ _ _ h => h) (Or.inl ⟨by rfl, ?_⟩) (by assumption) ?_
      rotate_left
      · (intro w hSw; (try dsimp only at hSw); go_simp; try (with_reducible rfl))
      simp only [List.setIfInBounds_toArray, List.set_cons_zero, List.set_cons_succ]
      refine takeH (i := 6) (d := 35) (v := ?_) rfl rfl (by kernel_rfl) (by kernel_rfl) (by kernel_rfl) (fun _ _ _ h => h) (Or.inl ⟨by rfl, ?_⟩) (by assumption) ?_
      rotate_left
      · (intro w hSw; (try dsimp only at hSw); go_simp; try (with_reducible rfl))
      simp only [List.setIfInBounds_toArray, List.set_cons_zero, List.set_cons_succ]
      refine takeH (i := 7) (d := 36) (v := ?_) rfl rfl (by kernel_rfl) (by kernel_rfl) (by kernel_rfl) (fun _ _ _ h => h) (Or.inl ⟨by rfl, ?_⟩) (by assumption) ?_
      rotate_left
      · (intro w hSw; (try dsimp only at hSw); go_simp; try (with_reducible rfl))
      simp only [List.setIfInBounds_toArray, List.set_cons_zero, List.set_cons_succ]
      refine takeH (i := 8) (d := 37) (v := ?_) rfl rfl (by kernel_rfl) (by kernel_rfl) (by kernel_rfl) (fun _ _ _ h => h) (Or.inl ⟨by rfl, ?_⟩) (by assumption) ?_
      rotate_left
      · (intro w hSw; (try dsimp only at hSw); go_simp; try (with_reducible rfl))
      simp only [List.setIfInBounds_toArray, List.set_cons_zero, List.set_cons_succ]
      refine takeH (i := 9) (d := 38) (v := ?_) rfl rfl (by kernel_rfl) (by kernel_rfl) (by kernel_rfl) (fun _ _ _ h => h) (Or.inl ⟨by rfl, ?_⟩) (by assumption) ?_
      rotate_left
      · (intro w hSw; (try dsimp only at hSw); go_simp; try (with_reducible rfl))
      simp only [List.setIfInBounds_toArray, List.set_cons_zero, List.set_cons_succ]
      refine takeH (i := 10) (d := 39) (v := ?_) rfl rfl (by kernel_rfl) (by kernel_rfl) (by kernel_rfl) (fun _ _ _ h => h) (Or.inl ⟨by rfl, ?_⟩) (by assumption) ?_
      rotate_left
      · (intro w hSw; (try dsimp only at hSw); go_simp; try (with_reducible rfl))
      simp only [List.setIfInBounds_toArray, List.set_cons_zero, List.set_cons_succ]
      refine takeH (i := 11) (d := 40) (v := ?_) rfl rfl (by kernel_rfl) (by kernel_rfl) (by kernel_rfl) (fun _ _ _ h => h) (Or.inl ⟨by rfl, ?_⟩) (by assumption) ?_
      rotate_left
      · (intro w hSw; (try dsimp only at hSw); go_simp; try (with_reducible rfl))
      simp only [List.setIfInBounds_toArray, List.set_cons_zero, List.set_cons_succ]
      refine takeH (i := 12) (d := 41) (v := ?_) rfl rfl (by kernel_rfl) (by kernel_rfl) (by kernel_rfl) (fun _ _ _ h => h) (Or.inl ⟨by rfl, ?_⟩) (by assumption) ?_
      rotate_left
      · (intro w hSw; (try dsimp only at hSw); go_simp; try (with_reducible rfl))
      simp only [List.setIfInBounds_toArray, List.set_cons_zero, List.set_cons_succ]
      refine takeH (i := 13) (d := 42) (v := ?_) rfl rfl (by kernel_rfl) (by kernel_rfl) (by kernel_rfl) (fun _ _ _ h => h) (Or.inl ⟨by rfl, ?_⟩) (by assumption) ?_
      rotate_left
      · (intro w hSw; (try dsimp only at hSw); go_simp; try (with_reducible rfl))
      simp only [List.setIfInBounds_toArray, List.set_cons_zero, List.set_cons_succ]
      refine takeH (i := 14) (d := 43) (v := ?_) rfl rfl (by kernel_rfl) (by kernel_rfl) (by kernel_rfl) (fun _ _ _ h => h) (Or.inl ⟨by rfl, ?_⟩) (by assumption) ?_
      rotate_left
      · (intro w hSw; (try dsimp only at hSw); go_simp; try (with_reducible rfl))
      simp only [List.setIfInBounds_toArray, List.set_cons_zero, List.set_cons_succ]
      refine takeH (i := 15) (d := 44) (v := ?_) rfl rfl (by kernel_rfl) (by kernel_rfl) (by kernel_rfl) (fun _ _ _ h => h) (Or.inl ⟨by rfl, ?_⟩) (by assumption) ?_
      rotate_left
      · (intro w hSw; (try dsimp only at hSw); go_simp; try (with_reducible rfl))
      simp only [List.setIfInBounds_toArray, List.set_cons_zero, List.set_cons_succ]
      refine takeH (i := 16) (d := 45) (v := ?_) rfl rfl (by kernel_rfl) (by kernel_rfl) (by kernel_rfl) (fun _ _ _ h => h) (Or.inl ⟨by rfl, ?_⟩) (by assumption) ?_
      rotate_left
      · (intro w hSw; (try dsimp only at hSw); go_simp; try (with_reducible rfl))
      simp only [List.setIfInBounds_toArray, List.set_cons_zero, List.set_cons_succ]
      refine takeH (i := 17) (d := 46) (v := ?_) rfl rfl (by kernel_rfl) (by kernel_rfl) (by kernel_rfl) (fun _ _ _ h => h) (Or.inl ⟨by rfl, ?_⟩) (by assumption) ?_
      rotate_left
      · (intro w hSw; (try dsimp only at hSw); go_simp; try (with_reducible rfl))
      simp only [List.setIfInBounds_toArray, List.set_cons_zero, List.set_cons_succ]
      refine takeH (i := 18) (d := 47) (v := ?_) rfl rfl (by kernel_rfl) (by kernel_rfl) (by kernel_rfl) (fun _ _ _ h => h) (Or.inl ⟨by rfl, ?_⟩) (by assumption) ?_
      rotate_left
      · (intro w hSw; (try dsimp only at hSw); go_simp; try (with_reducible rfl))
      simp only [List.setIfInBounds_toArray, List.set_cons_zero, List.set_cons_succ]
      refine takeH (i := 19) (d := 48) (v := ?_) rfl rfl (by kernel_rfl) (by kernel_rfl) (by kernel_rfl) (fun _ _ _ h => h) (Or.inl ⟨by rfl, ?_⟩) (by assumption) ?_
      rotate_left
      · (intro w hSw; (try dsimp only at hSw); go_simp; try (with_reducible rfl))
      simp only [List.setIfInBounds_toArray, List.set_cons_zero, List.set_cons_succ]
      refine takeH (i := 20) (d := 49) (v := ?_) rfl rfl (by kernel_rfl) (by kernel_rfl) (by kernel_rfl) (fun _ _ _ h => h) (Or.inl ⟨by rfl, ?_⟩) (by assumption) ?_
      rotate_left
      · (intro w hSw; (try dsimp only at hSw); go_simp; try (with_reducible rfl))
      simp only [List.setIfInBounds_toArray, List.set_cons_zero, List.set_cons_succ]
      refine takeH (i := 21) (d := 50) (v := ?_) rfl rfl (by kernel_rfl) (by kernel_rfl) (by kernel_rfl) (fun _ _ _ h => h) (Or.inl ⟨by rfl, ?_⟩) (by assumption) ?_
      rotate_left
      · (intro w hSw; (try dsimp only at hSw); go_simp; try (with_reducible rfl))
      simp only [List.setIfInBounds_toArray, List.set_cons_zero, List.set_cons_succ]
      refine takeH (i := 22) (d := 51) (v := ?_) rfl rfl (by kernel_rfl) (by kernel_rfl) (by kernel_rfl) (fun _ _ _ h => h) (Or.inl ⟨by rfl, ?_⟩) (by assumption) ?_
      rotate_left
      · (intro w hSw; (try dsimp only at hSw); go_simp; try (with_reducible rfl))
      simp only [List.setIfInBounds_toArray, List.set_cons_zero, List.set_cons_succ]
      refine takeH (i := 23) (d := 52) (v := ?_) rfl rfl (by kernel_rfl) (by kernel_rfl) (by kernel_rfl) (fun _ _ _ h => h) (Or.inl ⟨by rfl, ?_⟩) (by assumption) ?_
      rotate_left
      · (intro w hSw; (try dsimp only at hSw); go_simp; try (with_reducible rfl))
      simp only [List.setIfInBounds_toArray, List.set_cons_zero, List.set_cons_succ]
      refine takeH (i := 24) (d := 53) (v := ?_) rfl rfl (by kernel_rfl) (by kernel_rfl) (by kernel_rfl) (fun _ _ _ h => h) (Or.inl ⟨by rfl, ?_⟩) (by assumption) ?_
      rotate_left
      · (intro w hSw; (try dsimp only at hSw); go_simp; try (with_reducible rfl))
      simp only [List.setIfInBounds_toArray, List.set_cons_zero, List.set_cons_succ]
      refine takeH (i := 25) (d := 54) (v := ?_) rfl rfl (by kernel_rfl) (by kernel_rfl) (by kernel_rfl) (fun _ _ _ h => h) (Or.inl ⟨by rfl, ?_⟩) (by assumption) ?_
      rotate_left
      · (intro w hSw; (try dsimp only at hSw); go_simp; try (with_reducible rfl))
      simp only [List.setIfInBounds_toArray, List.set_cons_zero, List.set_cons_succ]
      refine takeH (i := 26) (d := 55) (v := ?_) rfl rfl (by kernel_rfl) (by kernel_rfl) (by kernel_rfl) (fun _ _ _ h => h) (Or.inl ⟨by rfl, ?_⟩) (by assumption) ?_
      rotate_left
      · (intro w hSw; (try dsimp only at hSw); go_simp; try (with_reducible rfl))
      simp only [List.setIfInBounds_toArray, List.set_cons_zero, List.set_cons_succ]
      refine takeH (i := 27) (d := 56) (v := ?_) rfl rfl (by kernel_rfl) (by kernel_rfl) (by kernel_rfl) (fun _ _ _ h => h) (Or.inl ⟨by rfl, ?_⟩) (by assumption) ?_
      rotate_left
      · (intro w hSw; (try dsimp only at hSw); go_simp; try (with_reducible rfl))
      simp only [List.setIfInBounds_toArray, List.set_cons_zero, List.set_cons_succ]
      refine takeH (i := 28) (d := 57) (v := ?_) rfl rfl (by kernel_rfl) (by kernel_rfl) (by kernel_rfl) (fun _ _ _ h => h) (Or.inl ⟨by rfl, ?_⟩) (by assumption) ?_
      rotate_left
      · (intro w hSw; (try dsimp only at hSw); go_simp; try (with_reducible rfl))
      simp only [List.setIfInBounds_toArray, List.set_cons_zero, List.set_cons_succ]
      refine takeH (i := 29) (d := 58) (v := ?_) rfl rfl (by kernel_rfl) (by kernel_rfl) (by kernel_rfl) (fun _ _ _ h => h) (Or.inl ⟨by rfl, ?_⟩) (by assumption) ?_
      rotate_left
      · (intro w hSw; (try dsimp only at hSw); go_simp; try (with_reducible rfl))
      simp only [List.setIfInBounds_toArray, List.set_cons_zero, List.set_cons_succ]
      refine takeH (i := 30) (d := 59) (v := ?_) rfl rfl (by kernel_rfl) (by kernel_rfl) (by kernel_rfl) (fun _ _ _ h => h) (Or.inl ⟨by rfl, ?_⟩) (by assumption) ?_
      rotate_left
      · (intro w hSw; (try dsimp only at hSw); go_simp; try (with_reducible rfl))
      simp only [List.setIfInBounds_toArray, List.set_cons_zero, List.set_cons_succ]
      refine step2H (i := 4) (j := 31) (by kernel_rfl) rfl rfl rfl rfl ?_ ?_
      · refine wp_yields (d := 33) rfl (v := v) (w' := wr.drew) (by go_simp) ⟨hHeld, ?_⟩
        simp only [List.setIfInBounds_toArray, List.set_cons_zero, List.set_cons_succ]
        refine stepH (i := 31) (by kernel_rfl) rfl rfl ?_
        refine wp_yields (d := 60) rfl (v := .slice (some ⟨wr.heap.size, 0, none⟩) 1 1) (w' := (wr.alloc (.cells #[.int .i64 (d[i]!.off.val : Int), .int .i64 d[i]!.line, .int .i64 d[i]!.col, .string d[i]!.path, .bool d[i]!.nj, .string d[i]!.msg] 65)).drew) (by go_simp) ⟨by go_keep, ?_⟩
        simp only [List.setIfInBounds_toArray, List.set_cons_zero, List.set_cons_succ]
        refine stepH (i := 32) (by kernel_rfl) rfl rfl ?_
        refine wp_append_lies _ _ _ _ (by rfl) (w.heap.size + 1) 65 i0 _ 6 64 Try.underlying61 hi0 hz0 hz1 hz2 rfl (by omega) v i (flat6 d i) (by rfl) ((Hown.out.alloc _).drew) ⟨wr.heap.size, 0, none⟩ 1 1 (encL d[i]!) (by rfl) (by rfl) (World.news_of_block (cs := (encL d[i]!).toArray) (t := 65) (fr := (0, 0)) (heap_alloc_new wr _)) (by simp [encL, Value.oneCell']) (by omega) (by simp [maxLen]; omega) (by omega) (by simp; omega) (wr.heap.size + 1) (by simp) ?_
        intro gg cap w1 hown1 hgrow hat hlt2
        have hS1 : w1.cell? ⟨o0, i, none⟩ = some (.int .i64 (d[i]!.off.val : Int)) ∧ w1.cell? ⟨o1, i, none⟩ = some (.int .i64 d[i]!.line) ∧ w1.cell? ⟨o2, i, none⟩ = some (.int .i64 d[i]!.col) ∧ w1.cell? ⟨o3, i, none⟩ = some (.string d[i]!.path) ∧ w1.cell? ⟨o4, i, none⟩ = some (.bool d[i]!.nj) ∧ w1.cell? ⟨o5, i, none⟩ = some (.string d[i]!.msg) := by
          rw [hgrow.cell_far _ (by simp; omega) n0', hgrow.cell_far _ (by simp; omega) n1', hgrow.cell_far _ (by simp; omega) n2', hgrow.cell_far _ (by simp; omega) n3', hgrow.cell_far _ (by simp; omega) n4', hgrow.cell_far _ (by simp; omega) n5']
          go_keep
        have hc2 := hgrow.cell_far ⟨w.heap.size, 2, none⟩ (by simp; omega) nB
        have hf2 := hgrow.frozen_far ⟨w.heap.size, 2, none⟩ (by simp; omega) nB
        rw [pz] at hc2
        rw [fz] at hf2
        have HG : Hid (World.grownBy _ w1 v.ownBlock) := hgrow
        have HO1 : Hid (World.ownsRow w1 _ _ _ _ _ _) := hown1
        clear hgrow hown1 hat pz fz
        refine ⟨hS1, ?_⟩
        change wpAnyH _ _ _ _ _ _ _ (Act.put _ (some 61) _) _
        simp only [Act.put, List.setIfInBounds_toArray, List.set_cons_zero, List.set_cons_succ]
        refine takeH (i := 33) (d := 62) (v := ?_) rfl rfl (by kernel_rfl) (by kernel_rfl) (by kernel_rfl) (fun _ _ _ h => h) (Or.inl ⟨by rfl, ?_⟩) (by assumption) ?_
        rotate_left
        · (intro w hSw; (try dsimp only at hSw); go_simp; try (with_reducible rfl))
        simp only [List.setIfInBounds_toArray, List.set_cons_zero, List.set_cons_succ]
        refine takeH (i := 34) (d := 63) (v := ?_) rfl rfl (by kernel_rfl) (by kernel_rfl) (by kernel_rfl) (fun _ _ _ h => h) (Or.inl ⟨by rfl, ?_⟩) (by assumption) ?_
        rotate_left
        · (intro w hSw; (try dsimp only at hSw); go_simp; try (with_reducible rfl))
        simp only [List.setIfInBounds_toArray, List.set_cons_zero, List.set_cons_succ]
        refine stepH (i := 35) (by kernel_rfl) rfl rfl ?_
        refine wp_skips rfl (w' := w1.setCell ⟨w.heap.size, 2, none⟩ (.slice (some ⟨gg, 0, none⟩) (i + 1) cap)) (by go_simp) ⟨?_, ?_⟩
        · rw [World.cell?_setCell_far _ ⟨w.heap.size, 2, none⟩ ⟨o0, i, none⟩ _ (Ne.symm ne0), World.cell?_setCell_far _ ⟨w.heap.size, 2, none⟩ ⟨o1, i, none⟩ _ (Ne.symm ne1), World.cell?_setCell_far _ ⟨w.heap.size, 2, none⟩ ⟨o2, i, none⟩ _ (Ne.symm ne2), World.cell?_setCell_far _ ⟨w.heap.size, 2, none⟩ ⟨o3, i, none⟩ _ (Ne.symm ne3), World.cell?_setCell_far _ ⟨w.heap.size, 2, none⟩ ⟨o4, i, none⟩ _ (Ne.symm ne4), World.cell?_setCell_far _ ⟨w.heap.size, 2, none⟩ ⟨o5, i, none⟩ _ (Ne.symm ne5)]
          exact hS1
        refine wpAnyH_done (by kernel_rfl) ?_ _
        go_wp2_with fail
        go_roundg (n - (i + 1))
        case measure => omega
        case rel => exact ⟨i + 1, by go_num, by omega, Nat.le_refl _, appInv_step HB.out Hbel.out Hlo.out HG.out HO1.out⟩
      · refine wp_yields (d := 60) rfl (v := .slice (some ⟨wr.heap.size, 0, none⟩) 1 1) (w' := (wr.alloc (.cells #[.int .i64 (d[i]!.off.val : Int), .int .i64 d[i]!.line, .int .i64 d[i]!.col, .string d[i]!.path, .bool d[i]!.nj, .string d[i]!.msg] 65)).drew) (by go_simp) ⟨by go_keep, ?_⟩
        simp only [List.setIfInBounds_toArray, List.set_cons_zero, List.set_cons_succ]
        refine stepH (i := 4) (by kernel_rfl) rfl rfl ?_
        refine wp_yields (d := 33) rfl (v := v) (w' := (wr.alloc (.cells #[.int .i64 (d[i]!.off.val : Int), .int .i64 d[i]!.line, .int .i64 d[i]!.col, .string d[i]!.path, .bool d[i]!.nj, .string d[i]!.msg] 65)).drew) (by go_simp) ⟨by go_keep, ?_⟩
        simp only [List.setIfInBounds_toArray, List.set_cons_zero, List.set_cons_succ]
        refine stepH (i := 32) (by kernel_rfl) rfl rfl ?_
        refine wp_append_lies _ _ _ _ (by rfl) (w.heap.size + 1) 65 i0 _ 6 64 Try.underlying61 hi0 hz0 hz1 hz2 rfl (by omega) v i (flat6 d i) (by rfl) ((Hown.out.alloc _).drew) ⟨wr.heap.size, 0, none⟩ 1 1 (encL d[i]!) (by rfl) (by rfl) (World.news_of_block (cs := (encL d[i]!).toArray) (t := 65) (fr := (0, 0)) (heap_alloc_new wr _)) (by simp [encL, Value.oneCell']) (by omega) (by simp [maxLen]; omega) (by omega) (by simp; omega) (wr.heap.size + 1) (by simp) ?_
        intro gg cap w1 hown1 hgrow hat hlt2
        have hS1 : w1.cell? ⟨o0, i, none⟩ = some (.int .i64 (d[i]!.off.val : Int)) ∧ w1.cell? ⟨o1, i, none⟩ = some (.int .i64 d[i]!.line) ∧ w1.cell? ⟨o2, i, none⟩ = some (.int .i64 d[i]!.col) ∧ w1.cell? ⟨o3, i, none⟩ = some (.string d[i]!.path) ∧ w1.cell? ⟨o4, i, none⟩ = some (.bool d[i]!.nj) ∧ w1.cell? ⟨o5, i, none⟩ = some (.string d[i]!.msg) := by
          rw [hgrow.cell_far _ (by simp; omega) n0', hgrow.cell_far _ (by simp; omega) n1', hgrow.cell_far _ (by simp; omega) n2', hgrow.cell_far _ (by simp; omega) n3', hgrow.cell_far _ (by simp; omega) n4', hgrow.cell_far _ (by simp; omega) n5']
          go_keep
        have hc2 := hgrow.cell_far ⟨w.heap.size, 2, none⟩ (by simp; omega) nB
        have hf2 := hgrow.frozen_far ⟨w.heap.size, 2, none⟩ (by simp; omega) nB
        rw [pz] at hc2
        rw [fz] at hf2
        have HG : Hid (World.grownBy _ w1 v.ownBlock) := hgrow
        have HO1 : Hid (World.ownsRow w1 _ _ _ _ _ _) := hown1
        clear hgrow hown1 hat pz fz
        refine ⟨hS1, ?_⟩
        change wpAnyH _ _ _ _ _ _ _ (Act.put _ (some 61) _) _
        simp only [Act.put, List.setIfInBounds_toArray, List.set_cons_zero, List.set_cons_succ]
        refine takeH (i := 33) (d := 62) (v := ?_) rfl rfl (by kernel_rfl) (by kernel_rfl) (by kernel_rfl) (fun _ _ _ h => h) (Or.inl ⟨by rfl, ?_⟩) (by assumption) ?_
        rotate_left
        · (intro w hSw; (try dsimp only at hSw); go_simp; try (with_reducible rfl))
        simp only [List.setIfInBounds_toArray, List.set_cons_zero, List.set_cons_succ]
        refine takeH (i := 34) (d := 63) (v := ?_) rfl rfl (by kernel_rfl) (by kernel_rfl) (by kernel_rfl) (fun _ _ _ h => h) (Or.inl ⟨by rfl, ?_⟩) (by assumption) ?_
        rotate_left
        · (intro w hSw; (try dsimp only at hSw); go_simp; try (with_reducible rfl))
        simp only [List.setIfInBounds_toArray, List.set_cons_zero, List.set_cons_succ]
        refine stepH (i := 35) (by kernel_rfl) rfl rfl ?_
        refine wp_skips rfl (w' := w1.setCell ⟨w.heap.size, 2, none⟩ (.slice (some ⟨gg, 0, none⟩) (i + 1) cap)) (by go_simp) ⟨?_, ?_⟩
        · rw [World.cell?_setCell_far _ ⟨w.heap.size, 2, none⟩ ⟨o0, i, none⟩ _ (Ne.symm ne0), World.cell?_setCell_far _ ⟨w.heap.size, 2, none⟩ ⟨o1, i, none⟩ _ (Ne.symm ne1), World.cell?_setCell_far _ ⟨w.heap.size, 2, none⟩ ⟨o2, i, none⟩ _ (Ne.symm ne2), World.cell?_setCell_far _ ⟨w.heap.size, 2, none⟩ ⟨o3, i, none⟩ _ (Ne.symm ne3), World.cell?_setCell_far _ ⟨w.heap.size, 2, none⟩ ⟨o4, i, none⟩ _ (Ne.symm ne4), World.cell?_setCell_far _ ⟨w.heap.size, 2, none⟩ ⟨o5, i, none⟩ _ (Ne.symm ne5)]
          exact hS1
        refine wpAnyH_done (by kernel_rfl) ?_ _
        go_wp2_with fail
        go_roundg (n - (i + 1))
        case measure => omega
        case rel => exact ⟨i + 1, by go_num, by omega, Nat.le_refl _, appInv_step HB.out Hbel.out Hlo.out HG.out HO1.out⟩
    · have hlt' : ¬ (i : Int) < n := by omega
      obtain rfl : i = n := by omega
      obtain ⟨v, hB, hown, hz⟩ := HI.out.own
      have Hbel : Hid (RowKit.Below w.heap.size w wr) := HI.out.bel
      have call := call28 w.heap.size a0 n0 c0 bs v i d wr hB hown hz Hn.out hn2 Hn0.out hmax (Hbs.out.below HI.out.bel Hb0.out) Hb0.out Hoff.out
      have hBw := hB.lt
      have hvn : ∃ ao cap, v = .slice ao i cap := by
        rcases hown.2 with ⟨h1, h2⟩ | ⟨g, cap, _, h1, _⟩
        · exact ⟨none, 0, by rw [h1, h2]⟩
        · exact ⟨_, cap, h1⟩
      obtain ⟨ao, cap, rfl⟩ := hvn
      clear hB hown hz HI
      go_wp2_with fail
      refine call.mono ?_
      rintro e w2 ⟨r, rfl, hB2, hb2, hv2, G, rfl, hR⟩
      clear call
      have HB2 : Hid (Blk w2 w.heap.size #[.slice a0 n0 c0, .slice none 0 0, .slice ao i cap] 63) := hB2
      have HW2 : Hid (RowKit.Below w.heap.size w w2) := Hbel.out.trans hb2
      have Hv2 : Hid (∀ j, j < i → ∃ g cap' z, Value.slice ao i cap = .slice (some ⟨g, 0, none⟩) i cap' ∧ w2.cell? ⟨g, j * 6, none⟩ = some (.int .i64 z)) := hv2
      have HR : Hid (0 < i → w.heap.size ≤ G ∧ ∃ d' arr, PermIn 0 i d d' ∧ SortedIn (ltOf cfL) 0 i d' ∧ Blk w2 G arr 35 ∧ LocA arr bs d' i) := fun h => ⟨Nat.le_trans (Nat.le_of_lt hBw) (hR h).1, (hR h).2⟩
      have p2 := hB2.cell 2
      have hBw2 := hB2.lt
      simp at p2
      clear hB2 hb2 hv2 hR
      have hmk := mk30 i hn2
      obtain ⟨rG, hrG⟩ : ∃ rG, rG = (if i = 0 then none else some (⟨G, 0, none⟩ : Addr)) := ⟨_, rfl⟩
      have HrG : Hid (rG = (if i = 0 then none else some (⟨G, 0, none⟩ : Addr))) := hrG
      rw [← hrG]
      clear hrG
      dsimp only
      go_wp2_with fail
      go_loopg [78] i (fun kx s78 wx => ∃ k : Nat, s78 = .int .i64 k ∧ k ≤ i ∧ i - k ≤ kx ∧ Hid (∃ arr, Blk wx w2.heap.size arr 3 ∧ arr.size = i) ∧ Hid (RowKit.Below w2.heap.size w2 wx))
      case atStart => exact ⟨0, rfl, by omega, by omega, ⟨_, Blk.new _ _ _, size_madeCells _ _⟩, (RowKit.Below.refl _ _).alloc (Nat.le_refl _) _⟩
      case round =>
        obtain ⟨k, rfl, hk1, hk2, HA, HBx⟩ := hrel
        by_cases hlt3 : k < i
        · have hlt3' : (k : Int) < i := by omega
          obtain ⟨g, cap', z, hv, hc⟩ := Hv2.out k hlt3
          cases hv
          have hgl := World.block_lt_of_cell? w2 _ hc
          have hcx : wr.cell? ⟨g, k * 6, none⟩ = some (.int .i64 z) := by rw [HBx.out.cell hgl]; exact hc
          have p2x : wr.cell? ⟨w.heap.size, 2, none⟩ = some (.slice (some ⟨g, 0, none⟩) i cap) := by rw [HBx.out.cell (by exact hBw2)]; exact p2
          obtain ⟨arr, hA, hAs⟩ := HA.out
          obtain ⟨u, q1, q2⟩ : ∃ u, wr.cell? ⟨w2.heap.size, k, none⟩ = some u ∧ wr.frozen? ⟨w2.heap.size, k, none⟩ = false := by
            have h5 : k < arr.size := by omega
            exact ⟨arr[k], by rw [hA.cell, Array.getElem?_eq_getElem h5], hA.frozen _⟩
          have HA2 : Hid (Blk wr w2.heap.size arr 3) := hA
          have HAs : Hid (arr.size = i) := hAs
          clear hA hAs HA hc hgl
          go_wp2_with fail
          go_roundg (i - (k + 1))
          case measure => omega
          case rel => exact ⟨k + 1, by go_num, by omega, Nat.le_refl _, ⟨_, HA2.out.set _ _, by simp [HAs.out]⟩, HBx.out.setCell (p := ⟨w2.heap.size, k, none⟩) (Nat.le_refl _) _⟩
        · have hlt3' : ¬ (k : Int) < i := by omega
          go_wp2_with fail
          go_ret2
          refine ⟨G, w2.heap.size, by rw [← HrG.out]; rfl, HW2.out.trans (HBx.out.mono (by omega)), fun h => ?_⟩
          obtain ⟨h1, d', arr, h2, h3, h4, h5⟩ := HR.out h
          exact ⟨h1, d', arr, h2, h3, h4.below HBx.out h4.lt, h5⟩
end Go.Proofs.Qxb6614456a
