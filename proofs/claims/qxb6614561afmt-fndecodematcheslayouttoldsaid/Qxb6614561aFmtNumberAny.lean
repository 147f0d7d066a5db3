/-
  'number' AT WHATEVER PLACE: one contract.
-/
import Derived.Test.Qxb6614561aFmtNumber
namespace Go.Proofs.Qxb6614561aFmt
open Go Go.RowKit

theorem Dec.cells {w : World} {D : Nat} {v : Value} {sh : Bool} (h : Dec w D v sh) : w.cell? ⟨D, 0, none⟩ = some v ∧ w.cell? ⟨D, 2, none⟩ = some (.bool sh) := by
  obtain ⟨s, ov, wt, hD⟩ := h
  exact ⟨by simp [World.cell?, hD], by simp [World.cell?, hD]⟩

theorem Bs.below {w w' : World} {g D : Nat} {bs : List UInt8} (h : Bs w g bs) (hb : Below D w w') (hg : g < D) : Bs w' g bs := fun j hj => (hb.cell (p := ⟨g, j, none⟩) hg).trans (h j hj)

theorem be_take (bs : List UInt8) (P k : Nat) : be ((bs.drop P).take k) 0 k = be bs P k := by
  unfold be
  simp [List.take_take]

theorem be_eight (bs : List UInt8) (P : Nat) (h : P + 8 ≤ bs.length) :
    ((be bs P 8 : Nat) : Int) = ((bs[P + 7].toNat : Nat) : Int) + ((bs[P + 6].toNat : Nat) : Int) * 256 + ((bs[P + 5].toNat : Nat) : Int) * 65536 + ((bs[P + 4].toNat : Nat) : Int) * 16777216 + ((bs[P + 3].toNat : Nat) : Int) * 4294967296 + ((bs[P + 2].toNat : Nat) : Int) * 1099511627776 + ((bs[P + 1].toNat : Nat) : Int) * 281474976710656 + ((bs[P].toNat : Nat) : Int) * 72057594037927936 := by
  have e1 := be_succ bs P 0 (by omega)
  have e2 := be_succ bs P 1 (by omega)
  have e3 := be_succ bs P 2 (by omega)
  have e4 := be_succ bs P 3 (by omega)
  have e5 := be_succ bs P 4 (by omega)
  have e6 := be_succ bs P 5 (by omega)
  have e7 := be_succ bs P 6 (by omega)
  have e8 := be_succ bs P 7 (by omega)
  have e0 := be_zero bs P
  simp only [Nat.add_zero, Nat.zero_add, Nat.reduceAdd] at e1 e2 e3 e4 e5 e6 e7 e8
  omega

theorem number_any (D g P : Nat) (bs : List UInt8) (hmax : bs.length ≤ 1048576) (hgD : g < D) (K : Int) (k : Nat) (hK : K = k) (hk : k = 1 ∨ k = 2 ∨ k = 4 ∨ k = 8) (what : ByteArray) (w : World) (h : St w D g bs P) (hbs : Bs w g bs) :
    Calls Tryf.prog 13 #[.pointer (some ⟨D, 0, none⟩), .int .i64 K, .string what] w fun e w' => ∃ X : Nat, e = .returned (.int .u64 X) ∧ X < 256 ^ k ∧ (P + k ≤ bs.length → X = be bs P k) ∧ St w' D g bs (P + k) ∧ Below D w w' := by
  subst hK
  have ht := take_any D g P bs hmax (k : Int) k (.inr (.inl (by omega))) rfl (by omega) what w h
  by_cases hov : bs.length < P + k
  · -- it overruns: take hands back nil
    have ht' : Calls Tryf.prog 15 #[.pointer (some ⟨D, 0, none⟩), .int .i64 k, .string what] w fun e w' => e = .returned (.slice none 0 0) ∧ (St w' D g bs (P + k) ∧ Below D w w') := by
      refine ht.mono ?_
      rintro e w' ⟨v, rfl, hv, hs, hb⟩
      exact ⟨by rw [hv.2 hov], hs, hb⟩
    have hn : Calls Tryf.prog 13 #[.pointer (some ⟨D, 0, none⟩), .int .i64 k, .string what] w fun e w' => e = .returned (.int .u64 0) ∧ (St w' D g bs (P + k) ∧ Below D w w') := by
      rcases h with ⟨hP, ao, hd, _, _⟩ | ⟨hP, ao, m, c, hd, hm⟩
      · refine number_none D k what w _ ao _ _ false hd.cells.1 hd.cells.2 ?_ ht'
        by_cases h8 : k = 8
        · exact .inr ⟨by omega, .inl (by omega)⟩
        · exact .inl (by simp; omega)
      · refine number_none D k what w _ ao _ _ true hd.cells.1 hd.cells.2 ?_ ht'
        by_cases h8 : k = 8
        · exact .inr ⟨by omega, by by_cases hm8 : (m : Int) < 8; exact .inl hm8; exact .inr ⟨by omega, rfl⟩⟩
        · exact .inl (by simp; omega)
    refine hn.mono ?_
    rintro e w' ⟨rfl, hs, hb⟩
    exact ⟨0, rfl, Nat.pow_pos (by omega), fun h => by omega, hs, hb⟩
  · -- the bytes are there
    rcases h with ⟨hP, ao, hd, hq, ha⟩ | ⟨hP, _⟩
    · have ha' := ha (by omega)
      subst ha'
      by_cases h8 : k = 8
      · subst h8
        have hu : ∀ w1 : World, Below w.heap.size w w1 → Calls Tryf.prog 17 #[.agg #[], .slice (some ⟨g, P, none⟩) (bs.length - P) (bs.length - P)] w1 fun e w' => e = .returned (.int .u64 (be bs P 8 : Nat)) ∧ Below w1.heap.size w1 w' := by
          intro w1 hb1
          have hb' : Bs w1 g bs := hbs.below hb1 (Nat.lt_trans hgD hd.lt)
          have := u64_any g P (bs.length - P) (bs.length - P) _ _ _ _ _ _ _ _ w1 (by omega) (UInt8.toNat_lt _) (UInt8.toNat_lt _) (UInt8.toNat_lt _) (UInt8.toNat_lt _) (UInt8.toNat_lt _) (UInt8.toNat_lt _) (UInt8.toNat_lt _) (UInt8.toNat_lt _)
            (hb' P (by omega)) (hb' (P + 1) (by omega)) (hb' (P + 2) (by omega)) (hb' (P + 3) (by omega)) (hb' (P + 4) (by omega)) (hb' (P + 5) (by omega)) (hb' (P + 6) (by omega)) (hb' (P + 7) (by omega))
          rwa [← be_eight bs P (by omega)] at this
        by_cases hm8 : bs.length - P = 8
        · rw [hm8] at hd hu
          refine (number8_all D g P _ what w hd hu).mono ?_
          rintro e w' ⟨rfl, hd', hb⟩
          refine ⟨_, rfl, be_lt _ _ _, fun _ => rfl, .inl ⟨by omega, some ⟨g, P, none⟩, ?_, fun _ => ⟨P, rfl⟩, fun h => by omega⟩, hb⟩
          rw [show bs.length - (P + 8) = 0 by omega]; exact hd'
        · refine (number8_more D g P _ _ what (by omega) (by omega) w hd hu).mono ?_
          rintro e w' ⟨rfl, hd', hb⟩
          refine ⟨_, rfl, be_lt _ _ _, fun _ => rfl, .inl ⟨by omega, some ⟨g, P + 8, none⟩, ?_, fun _ => ⟨P + 8, rfl⟩, fun h => rfl⟩, hb⟩
          rw [show bs.length - (P + 8) = bs.length - P - 8 by omega]; exact hd'
      · have hl : ((bs.drop P).take k).length = k := by simp; omega
        have hn := number_some D k k what w (fun w' => St w' D g bs (P + k) ∧ Below D w w') g P k ((bs.drop P).take k) (by simp; omega) hl (by omega) (by
          refine ht.mono ?_
          rintro e w' ⟨v, rfl, hv, hs, hb⟩
          obtain ⟨q, rfl, hqP⟩ := hv.1 (by omega)
          obtain rfl := hqP (by omega)
          refine ⟨rfl, fun j hj => ?_, hs, hb⟩
          have := (hbs.below hb hgD) (q + j) (by omega)
          rw [this]
          simp)
        refine hn.mono ?_
        rintro e w' ⟨rfl, hs, hb⟩
        exact ⟨_, rfl, be_lt _ _ _, fun _ => be_take bs P k, hs, hb⟩
    · omega
end Go.Proofs.Qxb6614561aFmt
