/- A run of ones from a place on is told to be a sequence of ones, and no longer with a 1 beyond the zeros around it: for all places, lengths and gaps. No condition. -/
import Derived.Test.YtdofpblgcmjgfaaPFnSequenceMadex1
import Derived.Test.YtdofpblgcmjgfaaAt
namespace Go.Proofs.Ytdofpblgcmjgfaa.Pure
open Go.RowKit Go.Proofs.Ytdofpblgcmjgfaa.PFnSequenceMade Go.Proofs.YtdofpblgcmjgfaaW.PrintWords Go.Proofs.YtdofpblgcmjgfaaW.PrintLast

theorem seq_at (a n : Int) (h0 : 0 < n) (h1 : n ≤ 4611686018427387904) : ∃ r : Nat, (r : Int) < n ∧ laws_rwAt.f a n = laws_rwAt.f (r : Int) n := by
  obtain ⟨r, hr, e⟩ := Br.at_any a n h0 h1
  refine ⟨r, hr, ?_⟩
  unfold laws_rwAt.f
  rw [e, Br.at_small r n (by omega) hr h1]
theorem seq_all : ∀ i : Nat, i < 40 → ∀ n : Nat, n < 12 → ∀ g : Nat, g < 8 → laws_FnSequenceMade.f (i : Int) (n : Int) (g : Int) = some true := by decide +kernel
theorem FnSequenceMade : laws_FnSequenceMade.Pure := by
  intro a b c _ _ _
  obtain ⟨i, hi, e1⟩ := seq_at a 40 (by decide) (by decide)
  obtain ⟨n, hn, e2⟩ := seq_at b 12 (by decide) (by decide)
  obtain ⟨g, hg, e3⟩ := seq_at c 8 (by decide) (by decide)
  have h := seq_all i (by omega) n (by omega) g (by omega)
  unfold laws_FnSequenceMade.f at h ⊢
  rw [e1, e2, e3]
  exact h

end Go.Proofs.Ytdofpblgcmjgfaa.Pure
