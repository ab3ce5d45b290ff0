/- A word of 8 bits, turned by an even number of places within 32 bits, is told to be an immediate of ARM, and 257 is not: for all of them. No condition. -/
import Derived.Test.YtdofpblgcmjgfaaPFnImmRotMadex1
import Derived.Test.YtdofpblgcmjgfaaAt
namespace Go.Proofs.Ytdofpblgcmjgfaa.Pure
open Go.RowKit Go.Proofs.Ytdofpblgcmjgfaa.PFnImmRotMade Go.Proofs.YtdofpblgcmjgfaaW.PrintWords Go.Proofs.YtdofpblgcmjgfaaW.PrintLast

theorem imm_at (a n : Int) (h0 : 0 < n) (h1 : n ≤ 4611686018427387904) : ∃ r : Nat, (r : Int) < n ∧ laws_rwAt.f a n = laws_rwAt.f (r : Int) n := by
  obtain ⟨r, hr, e⟩ := Br.at_any a n h0 h1
  refine ⟨r, hr, ?_⟩
  unfold laws_rwAt.f
  rw [e, Br.at_small r n (by omega) hr h1]
theorem imm_all : ∀ by_ : Nat, by_ < 16 → ∀ x : Nat, x < 256 → laws_FnImmRotMade.f 18 (x : Int) (by_ : Int) = some true := by decide +kernel
theorem FnImmRotMade : laws_FnImmRotMade.Pure := by
  intro a b h _
  have h := Br.wf_u8 h
  obtain ⟨r, hr, e⟩ := imm_at b 16 (by decide) (by decide)
  refine ⟨18, ?_⟩
  have h1 := imm_all r (by omega) a.toNat (by omega)
  rw [show ((a.toNat : Nat) : Int) = a by omega] at h1
  unfold laws_FnImmRotMade.f at h1 ⊢
  rw [e]
  exact h1

end Go.Proofs.Ytdofpblgcmjgfaa.Pure
