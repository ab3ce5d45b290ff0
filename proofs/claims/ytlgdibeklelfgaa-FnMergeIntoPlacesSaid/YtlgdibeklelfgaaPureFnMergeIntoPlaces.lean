/- A place is in the merged interval exactly if it is in one of both. -/
import Derived.Test.YtlgdibeklelfgaaPAllx12
namespace Go.Proofs.Ytlgdibeklelfgaa.PAll
open Go.RowKit Go.Proofs.YtlgdibeklelfgaaW.PrintWords Go.Proofs.YtlgdibeklelfgaaW.PrintLast Go.Proofs.YtlgdibeklelfgaaW.PrintMore
set_option linter.unusedVariables false
set_option linter.unusedSimpArgs false
theorem some_f (a b : Int) : spec_Some.f a b = some (sm (a, b)) := by
  unfold spec_Some.f sm
  by_cases h1 : a < b
  · rw [if_pos h1]
    by_cases h2 : a ≥ -2305843009213693952
    · rw [if_pos h2]; simp [h1, show -2305843009213693952 ≤ a from h2]
    · rw [if_neg h2]; simp [h1, show ¬ -2305843009213693952 ≤ a from h2]
  · rw [if_neg h1]; simp [h1]
theorem ivWorks_f : laws_ivWorks.f = some true := by decide +kernel
theorem has_f (a b x : Int) : spec_Has.f a b x = some (Iv.has (a, b) x) := by
  unfold spec_Has.f Iv.has
  by_cases h : a ≤ x <;> simp [h]
theorem sm_some (a : Iv.I) (h : sm a = true) : Iv.some' a := by
  simp only [sm, Bool.and_eq_true, decide_eq_true_eq] at h
  exact h
theorem pure_FnMergeIntoPlaces (a b c d x : Int) : ∃ k, laws_FnMergeIntoPlaces.f k a b c d x = some true := by
  refine ⟨10, ?_⟩
  unfold laws_FnMergeIntoPlaces.f
  rw [some_f]
  simp only [Option.bind_some]
  by_cases h0 : sm (a, b) = true
  rotate_left
  · rw [if_neg h0, laws_FnMergeIntoPlaces.j0, if_pos rfl, ivWorks_f]; rfl
  rw [if_pos h0, some_f]
  simp only [Option.bind_some]
  by_cases h1 : sm (c, d) = true
  rotate_left
  · rw [show sm (c, d) = false by simpa using h1, Bool.not_false, laws_FnMergeIntoPlaces.j0, if_pos rfl, ivWorks_f]; rfl
  rw [h1, Bool.not_true, laws_FnMergeIntoPlaces.j0, if_neg (by simp)]
  have hf : impl_MergeInto.f a b c d = if Iv.ov (a, b) (c, d) = false ∧ Iv.adj (a, b) (c, d) = false then some (a, b, false) else some (min a c, max b d, true) := by
    unfold impl_MergeInto.f
    rw [ov_f a b c d h0 h1, adj_f]
    simp only [Option.bind_some, imin_f, imax_f]
  rw [hf]
  by_cases hb : Iv.ov (a, b) (c, d) = false ∧ Iv.adj (a, b) (c, d) = false
  · rw [if_pos hb]
    simp only [Option.bind_some, ivWorks_f]
    rfl
  · rw [if_neg hb]
    simp only [Option.bind_some, ivWorks_f, has_f, if_true]
    have hx := Iv.mrg_has (a := (a, b)) (b := (c, d)) (by have := sm_some _ h0; exact this.1) (by have := sm_some _ h1; exact this.1) (by
      cases h2 : Iv.ov (a, b) (c, d) with
      | true => rfl
      | false =>
        cases h3 : Iv.adj (a, b) (c, d) with
        | true => rfl
        | false => exact absurd ⟨h2, h3⟩ hb) x
    simp only [Iv.mrg] at hx
    rw [hx]
    cases Iv.has (a, b) x <;> cases Iv.has (c, d) x <;> rfl
end Go.Proofs.Ytlgdibeklelfgaa.PAll
