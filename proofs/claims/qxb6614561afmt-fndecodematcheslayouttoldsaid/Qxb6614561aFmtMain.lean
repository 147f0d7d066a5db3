/-
  THE WALK of FnDecodeMatchesLayout, whole.
-/
import Derived.Test.Qxb6614561aFmtMid
import Derived.Test.Qxb6614561aFmtClone
namespace Go.Proofs.Qxb6614561aFmt
open Go Go.RowKit Go.Extern.Stop Go.Stop Go.Extern

set_option maxHeartbeats 4000000 in
set_option maxRecDepth 100000 in
theorem main_any (F : Interp) (ao : Option Addr) (n c : Nat) (bs : List UInt8) (hn : bs.length = n) (w : World) (hF : F.answers w.tape) (hnil : ao = none → n = 0)
    (hcells : ∀ ad, ao = some ad → ∀ j (h : j < bs.length), w.cell? (ad.add j) = some (.int .u8 (bs[j].toNat : Int))) :
    Calls Tryf.prog 3 #[.slice ao n c] w fun e w' => e = .returned (.bool true) ∧ Below w.heap.size w w' := by
  by_cases hbig : 1048576 < n
  · clear hcells hF hnil
    go_enter Tryf.func3, Tryf.ntmps3
    go_wp2_with fail
    refine (zz_long ao n c hbig w).mono ?_
    rintro e w' ⟨rfl, rfl⟩
    go_wp2_with fail
    go_ret
    exact ⟨rfl, Below.refl _ _⟩
  · have hmax : n ≤ 1048576 := by omega
    have hmax' : ¬ (1048576 : Int) < n := by omega
    cases ao with
    | none =>
      obtain rfl : n = 0 := hnil rfl
      obtain rfl : bs = [] := by simpa using hn
      have HF : Hid (F.answers w.tape) := hF
      clear hcells hn hnil hF
      go_enter Tryf.func3, Tryf.ntmps3
      go_wp2_with fail
      refine (zz_ok none 0 c hmax w).mono ?_
      rintro e w' ⟨rfl, rfl⟩
      go_wp2_with fail
      refine (clone_nil _ c).mono ?_
      rintro e w' ⟨rfl, rfl⟩
      go_wp2_with fail
      refine (clone_nil _ 0).mono ?_
      rintro e w' ⟨rfl, rfl⟩
      dsimp only
      have fin := fun x0 x1 x2 x3 x4 x5 x6 x7 x8 x9 x10 x11 x12 x13 x14 x15 x16 x17 x18 x19 x20 x21 x22 x23 x24 x25 x26 x27 x28 x29 x30 x31 x32 x33 x34 x35 x36 x37 x38 x39 x40 x41 x42 x43 x44 x45 x46 x47 x48 x49 x50 => main_mid F w' w' HF.out 0 0 0 [] rfl (by omega) none none (Below.refl _ _) (.inr ⟨rfl, rfl, rfl⟩) x0 x1 x2 x3 x4 x5 x6 x7 x8 x9 x10 x11 x12 x13 x14 x15 x16 x17 x18 x19 x20 x21 x22 x23 x24 x25 x26 x27 x28 x29 x30 x31 x32 x33 x34 x35 x36 x37 x38 x39 x40 x41 x42 x43 x44 x45 x46 x47 x48 x49 x50
      repeat (first | exact fin _ _ _ _ _ _ _ _ _ _ _ _ _ _ _ _ _ _ _ _ _ _ _ _ _ _ _ _ _ _ _ _ _ _ _ _ _ _ _ _ _ _ _ _ _ _ _ _ _ _ _  | go_step)
    | some ad =>
      have h1 := clone_any ad n c bs hn hmax w (hcells ad rfl)
      have HF : Hid (F.answers w.tape) := hF
      have Hn : Hid (bs.length = n) := hn
      clear hcells hn hnil hF
      go_enter Tryf.func3, Tryf.ntmps3
      go_wp2_with fail
      refine (zz_ok (some ad) n c hmax w).mono ?_
      rintro e w' ⟨rfl, rfl⟩
      go_wp2_with fail
      refine h1.mono ?_
      rintro e w1 ⟨rfl, hbs1, hlt1, hb1⟩
      have h2 := clone_any ⟨w'.heap.size, 0, none⟩ n n bs Hn.out hmax w1 (fun j h => by rw [WideShapes.add_plain, Nat.zero_add]; exact hbs1 j h)
      have HB : Hid (Bs w1 w'.heap.size bs ∧ w'.heap.size < w1.heap.size ∧ Below w'.heap.size w' w1) := ⟨hbs1, hlt1, hb1⟩
      clear h1 hbs1 hlt1 hb1
      go_wp2_with fail
      refine h2.mono ?_
      rintro e w2 ⟨rfl, hbs2, hlt2, hb2⟩
      dsimp only
      have fin := fun x0 x1 x2 x3 x4 x5 x6 x7 x8 x9 x10 x11 x12 x13 x14 x15 x16 x17 x18 x19 x20 x21 x22 x23 x24 x25 x26 x27 x28 x29 x30 x31 x32 x33 x34 x35 x36 x37 x38 x39 x40 x41 x42 x43 x44 x45 x46 x47 x48 x49 x50 => main_mid F w' w2 HF.out n w'.heap.size w1.heap.size bs Hn.out hmax (some ⟨w'.heap.size, 0, none⟩) (some ⟨w1.heap.size, 0, none⟩) (HB.out.2.2.trans (hb2.mono (by have := HB.out.2.1; omega)))
        (.inl ⟨rfl, rfl, HB.out.1.below hb2 HB.out.2.1, hbs2, Nat.lt_of_lt_of_le HB.out.2.1 hb2.size, hlt2⟩) x0 x1 x2 x3 x4 x5 x6 x7 x8 x9 x10 x11 x12 x13 x14 x15 x16 x17 x18 x19 x20 x21 x22 x23 x24 x25 x26 x27 x28 x29 x30 x31 x32 x33 x34 x35 x36 x37 x38 x39 x40 x41 x42 x43 x44 x45 x46 x47 x48 x49 x50
      clear h2 hbs2 hlt2 hb2
      repeat (first | exact fin _ _ _ _ _ _ _ _ _ _ _ _ _ _ _ _ _ _ _ _ _ _ _ _ _ _ _ _ _ _ _ _ _ _ _ _ _ _ _ _ _ _ _ _ _ _ _ _ _ _ _  | go_step)
end Go.Proofs.Qxb6614561aFmt
