/-
  THE WALK of zSameHead: two commands of like fields, their slices in two blocks of like bytes.
-/
import Derived.Test.Qxb6614561aFmtZero
namespace Go.Proofs.Qxb6614561aFmt
open Go Go.RowKit Go.Extern.Stop Go.Stop Go.Extern

theorem bs_alloc2 {w : World} {g : Nat} {bs : List UInt8} (h : Bs w g bs) (o1 o2 : Obj) : Bs ((w.alloc o1).alloc o2) g bs := by
  intro j hj
  have h1 := h j hj
  have hlt : g < w.heap.size := by
    rcases Nat.lt_or_ge g w.heap.size with h2 | h2
    · exact h2
    · have : w.heap[g]? = none := by simp; omega
      simp [World.cell?, this] at h1
  exact bs2 h hlt o1 o2 j hj

set_option maxHeartbeats 4000000 in
set_option maxRecDepth 100000 in
theorem same_nil (o : Int) (key : ByteArray) (v1 v2 : Option Addr) (n1 c1 n2 c2 : Nat) (s0 s1 s2 s3 le ttl : Int) (co : Bool) (rev ol fo fr cl : Int) (w : World) :
    Calls Tryf.prog 9 #[.agg (cmdA (.int .u8 o) (.string key) (.slice v1 n1 c1) (.slice none 0 0) (.int .u64 s0) (.int .u64 s1) (.int .i64 s2) (.int .i64 s3) (.int .u64 le) (.int .i64 ttl) (.bool co) (.int .u64 rev) (.int .u64 ol) (.int .u64 fo) (.int .u64 fr) (.int .i64 cl)),
      .agg (cmdA (.int .u8 o) (.string key) (.slice v2 n2 c2) (.slice none 0 0) (.int .u64 s0) (.int .u64 s1) (.int .i64 s2) (.int .i64 s3) (.int .u64 le) (.int .i64 ttl) (.bool co) (.int .u64 rev) (.int .u64 ol) (.int .u64 fo) (.int .u64 fr) (.int .i64 cl))] w
      fun e w' => e = .returned (.bool true) ∧ Below w.heap.size w w' := by
  have hq := fun w => Lib.run_eql_slice_nil (P := Tryf.prog) w 22 5 none 0 0 0 0 Tryf.underlying22
  go_enter Tryf.func9, Tryf.ntmps9
  go_wp2_with fail
  refine (bytesEq_zero none none 0 0 _).mono ?_
  rintro e w' ⟨rfl, rfl⟩
  go_wp2_with fail
  go_ret
  refine ⟨rfl, ?_⟩
  exact ((Below.refl _ _).alloc (Nat.le_refl _) _).alloc (by simp) _

set_option maxHeartbeats 4000000 in
set_option maxRecDepth 100000 in
theorem same_sl (o : Int) (key : ByteArray) (v1 v2 : Option Addr) (n1 c1 n2 c2 : Nat) (s0 s1 s2 s3 le ttl : Int) (co : Bool) (rev ol fo fr cl : Int) (w : World) (g1 g2 q1 q2 L d1 d2 : Nat) (l : List UInt8) (hl : l.length = L) (hL : L ≤ 1048576)
    (ha : ∀ o1 o2 j (h : j < l.length), ((w.alloc o1).alloc o2).cell? ⟨g1, q1 + j, none⟩ = some (.int .u8 (l[j].toNat : Int))) (hb : ∀ o1 o2 j (h : j < l.length), ((w.alloc o1).alloc o2).cell? ⟨g2, q2 + j, none⟩ = some (.int .u8 (l[j].toNat : Int))) :
    Calls Tryf.prog 9 #[.agg (cmdA (.int .u8 o) (.string key) (.slice v1 n1 c1) (.slice (some ⟨g1, q1, none⟩) L d1) (.int .u64 s0) (.int .u64 s1) (.int .i64 s2) (.int .i64 s3) (.int .u64 le) (.int .i64 ttl) (.bool co) (.int .u64 rev) (.int .u64 ol) (.int .u64 fo) (.int .u64 fr) (.int .i64 cl)),
      .agg (cmdA (.int .u8 o) (.string key) (.slice v2 n2 c2) (.slice (some ⟨g2, q2, none⟩) L d2) (.int .u64 s0) (.int .u64 s1) (.int .i64 s2) (.int .i64 s3) (.int .u64 le) (.int .i64 ttl) (.bool co) (.int .u64 rev) (.int .u64 ol) (.int .u64 fo) (.int .u64 fr) (.int .i64 cl))] w
      fun e w' => e = .returned (.bool true) ∧ Below w.heap.size w w' := by
  have hq1 := fun w => Lib.run_eql_slice_nil (P := Tryf.prog) w 22 5 (some ⟨g1, q1, none⟩) L d1 0 0 Tryf.underlying22
  have hq2 := fun w => Lib.run_eql_slice_nil (P := Tryf.prog) w 22 5 (some ⟨g2, q2, none⟩) L d2 0 0 Tryf.underlying22
  have Ha : Hid (∀ o1 o2 j (h : j < l.length), ((w.alloc o1).alloc o2).cell? ⟨g1, q1 + j, none⟩ = some (.int .u8 (l[j].toNat : Int))) := ha
  have Hb : Hid (∀ o1 o2 j (h : j < l.length), ((w.alloc o1).alloc o2).cell? ⟨g2, q2 + j, none⟩ = some (.int .u8 (l[j].toNat : Int))) := hb
  have Hl : Hid (l.length = L) := hl
  clear ha hb hl
  go_enter Tryf.func9, Tryf.ntmps9
  go_wp2_with fail
  refine (bytesEq_any g1 q1 d1 g2 q2 d2 L l _ Hl.out hL (Ha.out _ _) (Hb.out _ _)).mono ?_
  rintro e w' ⟨rfl, hbe⟩
  go_wp2_with fail
  go_ret
  refine ⟨rfl, ?_⟩
  exact (((Below.refl _ _).alloc (Nat.le_refl _) _).alloc (by simp) _).trans (hbe.mono (by simp; omega))
end Go.Proofs.Qxb6614561aFmt
