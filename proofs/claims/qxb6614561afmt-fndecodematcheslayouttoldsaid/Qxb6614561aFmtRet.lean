/-
  'return b, c' of zLayout: one law for all its returns.
-/
import Derived.Test.Qxb6614561aFmtDecode
import Derived.Deep.MidRow
import Derived.Lib.EndianMore
namespace Go.Proofs.Qxb6614561aFmt
open Go Go.RowKit Go.Extern.Stop Go.Stop Go.Extern

theorem mixedOK : Tryf.prog.follows .mixedOrders = true := by kernel_rfl

/-- 'return b, c' of zLayout: the region's three operations. -/
def retOps (s : Nat) (pos : String) (b : Bool) : Array Oper :=
  #[{ dst := some s, op := .load 30 (.tmp 4), type := 30, pos := pos, after := #[{ on := 1, ground := .gcOnly .lateStores }], guard := none },
    { dst := some 2, op := .assign (.const (.bool b)), type := 4, pos := pos, after := #[{ on := 0, ground := .textOnly .lateStores }], guard := none },
    { dst := none, op := .store 30 (.tmp 3) (.tmp s), type := 0, pos := pos, after := #[{ on := 0, ground := .data }, { on := 1, ground := .chain }, { on := 0, ground := .phase }, { on := 1, ground := .phase }], guard := none }]

theorem Sh.size {arr : Array Value} (h : Sh arr) : arr.size = 16 := by
  obtain ⟨o, key, v1, v2, v3, o1, o2, o3, s0, s1, s2, s3, le, ttl, co, rev, ol, fo, fr, cl, rfl⟩ := h
  rfl
theorem Sh.one {arr : Array Value} (h : Sh arr) : arr.all (·.oneCell') = true := by
  obtain ⟨o, key, v1, v2, v3, o1, o2, o3, s0, s1, s2, s3, le, ttl, co, rev, ol, fo, fr, cl, rfl⟩ := h
  simp [Value.oneCell']
theorem size30 : (Tryf.prog.info? 30).map (·.size) = some 16 := by kernel_rfl

theorem yield_all (s : Nat) (pos : String) (b : Bool) (t : Array Value) (o : Oper) (h : o.guard = none) : Region.wanted o (yielded (retOps s pos b) t) = true := by
  simp [Region.wanted, h]

theorem ret_region (id s : Nat) (pos : String) (b : Bool) (a : Act) (w : World) (Q : Exit → Act → World → Prop) (RC C : Nat) (arr z : Array Value)
    (hs : 4 < s) (hsz : s < a.tmps.size) (h3 : a.tmps.getD 3 undef = .pointer (some ⟨RC, 0, none⟩)) (h4 : a.tmps.getD 4 undef = .pointer (some ⟨C, 0, none⟩))
    (hRC : Cmd w RC z) (hz : z.size = 16) (hC : Cmd w C arr) (hsh : Sh arr)
    (h : Q .normal ((a.put (some s) (.agg arr)).put (some 2) (.bool b)) (w.drew.setCells RC 0 arr.toList)) :
    Code.wp Tryf.prog (.region id (retOps s pos b) true) Q a w := by
  have hthere : w.drew.there RC 0 arr.size := by
    intro j hj
    have e1 := hRC.cell j
    have e2 := hRC.frozen j
    rw [hsh.size] at hj
    refine ⟨?_, ?_⟩
    · rw [Nat.zero_add]
      show (w.cell? ⟨RC, j, none⟩).isSome = true
      rw [e1]; simp; omega
    · rw [Nat.zero_add]
      exact e2
  have g3 : ∀ v u, ((a.put (some s) v).put (some 2) u).eval (.tmp 3) = .pointer (some ⟨RC, 0, none⟩) := fun v u => by
    show ((a.tmps.setIfInBounds s v).setIfInBounds 2 u).getD 3 undef = _
    rw [← h3, Array.getD_eq_getD_getElem?, Array.getD_eq_getD_getElem?, Array.getElem?_setIfInBounds_ne (by omega), Array.getElem?_setIfInBounds_ne (by omega)]
  have gs : ∀ v u, ((a.put (some s) v).put (some 2) u).eval (.tmp s) = v := fun v u => by
    show ((a.tmps.setIfInBounds s v).setIfInBounds 2 u).getD s undef = _
    rw [Array.getD_eq_getD_getElem?, Array.getElem?_setIfInBounds_ne (by omega), Array.getElem?_setIfInBounds_self_of_lt hsz]
    rfl
  have g4 : a.eval (.tmp 4) = .pointer (some ⟨C, 0, none⟩) := h4
  have g4' : ∀ u, (a.put (some 2) u).eval (.tmp 4) = .pointer (some ⟨C, 0, none⟩) := fun u => by
    show (a.tmps.setIfInBounds 2 u).getD 4 undef = _
    rw [← h4, Array.getD_eq_getD_getElem?, Array.getD_eq_getD_getElem?, Array.getElem?_setIfInBounds_ne (by omega)]
  have hcomm : ∀ v u, (a.put (some 2) u).put (some s) v = (a.put (some s) v).put (some 2) u := fun v u => by
    simp only [Act.put]
    rw [Array.setIfInBounds_comm _ _ (by omega)]
  have hlast : ∀ fuel, wpAny Tryf.prog .any (retOps s pos b) Q (fuel + 1) #[true, true, false] ((a.put (some s) (.agg arr)).put (some 2) (.bool b)) w.drew := fun fuel => by
    refine wpAny_ready (rs := [2]) (by kernel_rfl) (by simp) ?_
    refine AllReady.cons rfl (fun K hK => ?_) AllReady.nil
    rw [if_pos (yield_all _ _ _ _ _ rfl)]
    refine wp_store_mid 30 (.tmp 3) (.tmp s) rfl RC 0 arr (g3 _ _) (gs _ _) hthere (by rw [hsh.size]; exact size30) hsh.one ?_
    refine hK _ _ ?_
    exact wpAny_done (by kernel_rfl) h _
  refine wp_region_any mixedOK ?_
  change wpAny _ _ _ _ 3 #[false, false, false] _ (World.drew _)
  refine wpAny_ready (rs := [0, 1]) (by kernel_rfl) (by simp) ?_
  refine AllReady.cons rfl (fun K hK => ?_) (AllReady.cons rfl (fun K hK => ?_) AllReady.nil)
  · rw [if_pos (yield_all _ _ _ _ _ rfl)]
    refine wp_load_row 30 (.tmp 4) rfl C g4 30 arr (0, 0) _ hC Tryf.underlying30 rfl (by rw [hsh.size]; exact size30) ?_
    refine hK _ _ ?_
    refine wpAny_ready (rs := [1]) (by kernel_rfl) (by simp) ?_
    refine AllReady.cons rfl (fun K hK => ?_) AllReady.nil
    rw [if_pos (yield_all _ _ _ _ _ rfl)]
    go_simp
    exact hK _ _ (hlast 0)
  · rw [if_pos (yield_all _ _ _ _ _ rfl)]
    go_simp
    refine hK _ _ ?_
    refine wpAny_ready (rs := [0]) (by kernel_rfl) (by simp) ?_
    refine AllReady.cons rfl (fun K hK => ?_) AllReady.nil
    rw [if_pos (yield_all _ _ _ _ _ rfl)]
    refine wp_load_row 30 (.tmp 4) rfl C (g4' _) 30 arr (0, 0) _ hC Tryf.underlying30 rfl (by rw [hsh.size]; exact size30) ?_
    refine hK _ _ ?_
    have := hlast 0
    rw [← hcomm] at this
    exact this
/-- What zLayout answers: false where the layout does not fit; else the command as the layout places it. -/
def LayEnd (w : World) (g : Nat) (bs : List UInt8) (e : Ending) (w' : World) : Prop :=
  ∃ (f o : Int) (p : Nat) (arr : Array Value) (ok : Bool), HeadRel bs f o p ∧ e = .returned (.tuple #[.bool ok, .agg arr]) ∧ Sh arr ∧ ((ok = false ∧ Bad bs f o p) ∨ (ok = true ∧ ¬ Bad bs f o p ∧ Fin g bs f o p arr)) ∧ Below w.heap.size w w'

theorem bs2 {w : World} {g : Nat} {bs : List UInt8} (h : Bs w g bs) (hg : g < w.heap.size) (o1 o2 : Obj) : Bs ((w.alloc o1).alloc o2) g bs := h.below (((Below.refl _ _).alloc (Nat.le_refl _) _).alloc (by simp) _) hg


theorem cmdR (w : World) (o : Obj) : Cmd ((w.alloc ZO).alloc o) w.heap.size zeroA :=
  (Below.heap_alloc (w.alloc ZO) o w.heap.size (by simp)).trans (MapKept.heap_alloc w ZO).1
theorem cmdC (w : World) (arr : Array Value) : Cmd ((w.alloc ZO).alloc (.cells arr 30)) (w.heap.size + 1) arr := by
  have := (MapKept.heap_alloc (w.alloc ZO) (.cells arr 30)).1
  rw [show (w.alloc ZO).heap.size = w.heap.size + 1 by simp] at this
  exact this

theorem cmd_setCells {w : World} {RC : Nat} {arr : Array Value} (h : Cmd w RC zeroA) (hsh : Sh arr) : Cmd (w.setCells RC 0 arr.toList) RC arr := by
  obtain ⟨o, key, v1, v2, v3, o1, o2, o3, s0, s1, s2, s3, le, ttl, co, rev, ol, fo, fr, cl, rfl⟩ := hsh
  have h1 := (cmd_set16 h (Below.refl RC w) (.int .u8 o) (.string key) (.slice v1 v2 v3) (.slice o1 o2 o3) (.int .u64 s0) (.int .u64 s1) (.int .i64 s2) (.int .i64 s3) (.int .u64 le) (.int .i64 ttl) (.bool co) (.int .u64 rev) (.int .u64 ol) (.int .u64 fo) (.int .u64 fr) (.int .i64 cl)).1
  simp only [World.setCells]
  exact h1

theorem ret_post (s : Nat) (b : Bool) (a : Act) (w : World) (post : Ending → World → Prop) (RC : Nat) (arr : Array Value) (hs : 4 < s) (h2 : 4 < a.tmps.size) (hd : a.defers = [])
    (h3 : a.tmps.getD 3 undef = .pointer (some ⟨RC, 0, none⟩)) (hRC : Cmd w RC zeroA) (hsh : Sh arr)
    (h : post (.returned (.tuple #[.bool b, .agg arr])) (w.drew.setCells RC 0 arr.toList)) :
    bodyPost Tryf.prog Tryf.f6 post .ret ((a.put (some s) (.agg arr)).put (some 2) (.bool b)) (w.drew.setCells RC 0 arr.toList) := by
  have hc : Cmd (w.drew.setCells RC 0 arr.toList) RC arr := cmd_setCells (w := w.drew) hRC hsh
  have e2 : ((a.tmps.setIfInBounds s (.agg arr)).setIfInBounds 2 (.bool b))[2]?.getD undef = .bool b := by
    rw [Array.getElem?_setIfInBounds_self_of_lt (by simp; omega)]
    rfl
  have e3 : (a.tmps.setIfInBounds s (.agg arr))[3]?.getD undef = .pointer (some ⟨RC, 0, none⟩) := by
    rw [Array.getElem?_setIfInBounds_ne (by omega), ← h3, Array.getD_eq_getD_getElem?]
  refine bodyPost_ret (v := .tuple #[.bool b, .agg arr]) ?_ hd h
  simp [results, Tryf.results6, Act.put, e2, e3, asAddr, run_loadVar_row (P := Tryf.prog) _ RC 30 30 arr (0, 0) _ hc Tryf.underlying30 rfl (by rw [hsh.size]; exact size30)]
end Go.Proofs.Qxb6614561aFmt
