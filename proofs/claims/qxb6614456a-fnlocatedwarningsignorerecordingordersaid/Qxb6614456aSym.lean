/-
  THE WALK of slices.symMergeCmpFunc at elements of k cells, whole.
-/
import Derived.Test.Qxb6614456aSymC
namespace Go.Proofs.Qxb6614456a
open Go Go.Shelf Go.RowKit Go.Lib Go.Sort
variable {P : Program} {α : Type} [Inhabited α]

theorem sym_any {k : Nat} (L : Lz P k) (enc : α → List Value) (cf : α → α → Int) (g : Nat) (cb : Array Value) (blk off cap : Nat) (d0 : Array α) (w0 : World) (hO : SWO (ltOf cf))
    (eg : ∀ args w, (callFunc g args).run P w = .ok (.enter g args) w) (hcmp : CmpLays P g cb enc k cf blk off d0.size w0) (R : RowK enc k w0 blk off d0) (hsz : d0.size < 4611686018427387904) :
    ∀ (n a m b : Nat) (d : Array α) (w : World), b - a ≤ n → a < m → m < b → b ≤ d0.size → d.size = d0.size → SWK enc k w0 blk off d w → SortedIn (ltOf cf) a m d → SortedIn (ltOf cf) m b d →
      Calls P 41 #[.slice (some ⟨blk, off, none⟩) d0.size cap, .int .i64 a, .int .i64 m, .int .i64 b, .func (.func g) #[] cb] w fun e w' => e = .returned (.tuple #[]) ∧ ∃ d', PermIn a b d d' ∧ SortedIn (ltOf cf) a b d' ∧ SWK enc k w0 blk off d' w' := by
  intro n
  induction n with
  | zero => intro a m b d w h1 h2 h3; omega
  | succ n ih =>
    intro a m b d w h1 h2 h3 h4 h5 S hA hB
    rw [← h5]
    rw [← h5] at hcmp hsz h4
    by_cases c1 : m = a + 1
    · subst c1
      exact symA L enc cf g cb blk off cap a b d0 d w0 w hO eg hcmp R h5.symm S (by omega) h4 hsz hB
    · by_cases c2 : b = m + 1
      · subst c2
        exact symB L enc cf g cb blk off cap a m d0 d w0 w hO eg hcmp R h5.symm S (by omega) h4 hsz hA
      · refine symC L enc cf g cb blk off cap a m b d0 d w0 w hO eg hcmp R h5.symm S (by omega) (by omega) h4 hsz hA hB ?_
        intro a' m' b' dk W g1 g2 g3 g4 g5 g6 g7 g8
        rw [h5]
        exact ih a' m' b' dk W (by omega) g1 g2 (by omega) (by omega) g6 g7 g8
end Go.Proofs.Qxb6614456a
