/-
  THE WALK of slices.swapRangeCmpFunc at elements of k cells, over whatever program bears these bodies.
-/
import Derived.Test.Qxb6614456aProg
import Derived.Test.Qxb6614456aMerge
import Derived.Shelf.SlSortCmp.KitK
import Derived.Deep.LoopGhost
namespace Go.Proofs.Qxb6614456a
open Go Go.Shelf Go.RowKit Go.Lib Go.Sort
variable {P : Program} {α : Type} [Inhabited α]

/-- What the walks ask of a program: the sort's bodies at their numbers, and the types that they name; an element has k cells. -/
structure Lz (P : Program) (k : Nat) : Prop where
  mixed : P.follows .mixedOrders = true
  f39 : P.funcs[39]? = some Try.f39
  f40 : P.funcs[40]? = some Try.f40
  f41 : P.funcs[41]? = some Try.f41
  f42 : P.funcs[42]? = some Try.f42
  f43 : P.funcs[43]? = some Try.f43
  e40 : ∀ args w, (callFunc 40 args).run P w = .ok (.enter 40 args) w
  e41 : ∀ args w, (callFunc 41 args).run P w = .ok (.enter 41 args) w
  e42 : ∀ args w, (callFunc 42 args).run P w = .ok (.enter 42 args) w
  e43 : ∀ args w, (callFunc 43 args).run P w = .ok (.enter 43 args) w
  t0 : P.underlying 0 = some (TypeDesc.tuple #[])
  a0 : ∀ w, (isAgg 0).run P w = .ok false w
  z0 : ∀ w, (Go.sizeOf 0).run P w = .ok 1 w
  v0 : ∀ w, (zeroValue 0).run P w = .ok (Value.tuple #[]) w
  t3 : P.underlying 3 = some (TypeDesc.int IntKind.i64)
  a3 : ∀ w, (isAgg 3).run P w = .ok false w
  z3 : ∀ w, (Go.sizeOf 3).run P w = .ok 1 w
  v3 : ∀ w, (zeroValue 3).run P w = .ok (Value.int IntKind.i64 0) w
  t4 : P.underlying 4 = some (TypeDesc.bool)
  a4 : ∀ w, (isAgg 4).run P w = .ok false w
  z4 : ∀ w, (Go.sizeOf 4).run P w = .ok 1 w
  v4 : ∀ w, (zeroValue 4).run P w = .ok (Value.bool false) w
  t61 : P.underlying 61 = some (TypeDesc.slice 65)
  a61 : ∀ w, (isAgg 61).run P w = .ok false w
  z61 : ∀ w, (Go.sizeOf 61).run P w = .ok 1 w
  v61 : ∀ w, (zeroValue 61).run P w = .ok (Value.slice none 0 0) w
  t120 : P.underlying 120 = some (TypeDesc.func #[65, 65] #[3] false)
  a120 : ∀ w, (isAgg 120).run P w = .ok false w
  z120 : ∀ w, (Go.sizeOf 120).run P w = .ok 1 w
  v120 : ∀ w, (zeroValue 120).run P w = .ok (Value.nilFunc) w
  t130 : P.underlying 130 = some (TypeDesc.int IntKind.u64)
  a130 : ∀ w, (isAgg 130).run P w = .ok false w
  z130 : ∀ w, (Go.sizeOf 130).run P w = .ok 1 w
  v130 : ∀ w, (zeroValue 130).run P w = .ok (Value.int IntKind.u64 0) w
  aE : ∀ w, (isAgg 65).run P w = .ok true w
  zE : ∀ w, (Go.sizeOf 65).run P w = .ok k w

set_option maxHeartbeats 4000000 in
set_option maxRecDepth 1000000 in
theorem swapRange_any {k : Nat} (L : Lz P k) (enc : α → List Value) (fv : Value) (blk off cap a b n : Nat) (d0 d : Array α) (w0 w : World)
    (R : RowK enc k w0 blk off d0) (hs : d0.size = d.size) (S : SWK enc k w0 blk off d w) (hab : a + n ≤ b) (hb : b + n ≤ d.size) (hsz : d.size < 4611686018427387904) :
    Calls P 43 #[.slice (some ⟨blk, off, none⟩) d.size cap, .int .i64 a, .int .i64 b, .int .i64 n, fv] w fun e w' => e = .returned (.tuple #[]) ∧ SWK enc k w0 blk off (swapR d a b n) w' := by
  have mixed := L.mixed; have t0 := L.t0; have a0 := L.a0; have z0 := L.z0; have v0 := L.v0; have t3 := L.t3; have a3 := L.a3; have z3 := L.z3; have v3 := L.v3; have t4 := L.t4; have a4 := L.a4; have z4 := L.z4; have v4 := L.v4; have t61 := L.t61; have a61 := L.a61; have z61 := L.z61; have v61 := L.v61; have t120 := L.t120; have a120 := L.a120; have z120 := L.z120; have v120 := L.v120; have aE := L.aE; have zE := L.zE
  have FG := L.f43
  have S0 : Aside (SWK enc k w0 blk off d w) := S
  clear S L
  go_enter FG, Try.ntmps43
  go_wp2
  go_loopg [10] n (fun kx s10 wr => ∃ (i : Nat) (dk : Array α), s10 = .int .i64 i ∧ i ≤ n ∧ n - i ≤ kx ∧ dk.size = d.size ∧ Aside (SWK enc k w0 blk off dk wr) ∧ Hid (dk = swapR d a b i))
  case atStart => exact ⟨0, d, rfl, by omega, by omega, rfl, S0, rfl⟩
  case round =>
    clear S0
    obtain ⟨i, dk, rfl, hin, hkx, hds, S1, Hdk⟩ := hrel
    by_cases hlt : i < n
    · have hltz : (i : Int) < (n : Int) := by omega
      obtain ⟨x, hx⟩ : ∃ x, x = a + i := ⟨_, rfl⟩
      obtain ⟨y, hy⟩ : ∃ y, y = b + i := ⟨_, rfl⟩
      have hxi : (a : Int) + (i : Int) = (x : Int) := by omega
      have hyi : (b : Int) + (i : Int) = (y : Int) := by omega
      have HX : Hid (x = a + i) := hx
      have HY : Hid (y = b + i) := hy
      have hxz : (x : Int) < (d.size : Int) := by omega
      have hyz : (y : Int) < (d.size : Int) := by omega
      have hxd : x < dk.size := by omega
      have hyd : y < dk.size := by omega
      clear hx hy
      go_wp2_with fail
      have S2 : Aside (SWK enc k w0 blk off (swp dk x y) ((wr.drew.setCells blk (off + x * k) (enc dk[y]!)).setCells blk (off + y * k) (enc dk[x]!))) := S1.out.swapped R x y hxd hyd
      have l44a := S1.out.ld1 R (by omega) P x hxd
      have l44b := S1.out.ld1 R (by omega) P y hyd
      have s44a := S1.out.st1 R (by omega) P x hxd dk[y]!
      have s44b := S1.out.st2 R (by omega) P x y hxd hyd dk[y]! dk[x]!
      have n44a : (enc dk[x]!).length = k := R.hk _
      have n44b : (enc dk[y]!).length = k := R.hk _
      generalize enc dk[x]! = cI44 at S2 l44a s44b n44a
      generalize enc dk[y]! = cJ44 at S2 l44b s44a s44b n44b
      clear S1
      go_wp2_with fail
      go_big_region_o
      clear l44a l44b s44a s44b
      generalize (wr.drew.setCells blk (off + x * k) cJ44).setCells blk (off + y * k) cI44 = w2 at S2 ⊢
      go_wp2
      go_roundg (n - (i + 1))
      case measure => omega
      case rel =>
        refine ⟨i + 1, swp dk x y, by simp, by omega, Nat.le_refl _, by rw [size_swp]; exact hds, S2, ?_⟩
        rw [HX.out, HY.out, Hdk.out]; rfl
    · have hltz : ¬ (i : Int) < (n : Int) := by omega
      go_wp2
      go_end0
      refine ⟨rfl, ?_⟩
      obtain rfl : i = n := by omega
      rw [← Hdk.out]
      exact S1.out
end Go.Proofs.Qxb6614456a
