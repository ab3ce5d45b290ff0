/- Whether two sequences overlap does not depend on their order. -/
import Derived.Test.YtlgdibeklelfgaaPAllx27
import Derived.Test.YtlgdibeklelfgaaHPure
namespace Go.Proofs.Ytlgdibeklelfgaa.PAll
open Go.RowKit Go.Proofs.YtlgdibeklelfgaaW.PrintWords Go.Proofs.YtlgdibeklelfgaaW.PrintLast Go.Proofs.YtlgdibeklelfgaaW.PrintMore
set_option linter.unusedVariables false
set_option linter.unusedSimpArgs false
theorem pure_FnSetsOverlapOrder (l0 l1 : List S23) : ∃ k, laws_FnSetsOverlapOrder.f k l0 l1 = some true := by
  refine ⟨l0.length * 4 + l1.length * 4 + 10, ?_⟩
  unfold laws_FnSetsOverlapOrder.f
  by_cases h0 : (l0.length : Int) > 2147483647
  · rw [if_pos h0, laws_FnSetsOverlapOrder.j0, if_pos rfl]
  rw [if_neg h0]
  by_cases h1 : (l1.length : Int) > 2147483647
  · rw [decide_eq_true h1, laws_FnSetsOverlapOrder.j0, if_pos rfl]
  rw [decide_eq_false h1, laws_FnSetsOverlapOrder.j0, if_neg (by simp), proper_f l0 (by omega) _ (by omega)]
  simp only [Option.bind_some]
  by_cases p0 : propAt l0 0 = true
  rotate_left
  · rw [if_neg p0, laws_FnSetsOverlapOrder.j1, if_pos rfl, ivWorks_f]; rfl
  rw [if_pos p0, proper_f l1 (by omega) _ (by omega)]
  simp only [Option.bind_some]
  obtain ⟨a0, n0⟩ := (prop_iff l0).1 p0
  have b0 := apart_bnd l0 a0 (by omega)
  by_cases p1 : propAt l1 0 = true
  rotate_left
  · rw [show propAt l1 0 = false by simpa using p1, Bool.not_false, laws_FnSetsOverlapOrder.j1, if_pos rfl, ivWorks_f]; rfl
  rw [p1, Bool.not_true, laws_FnSetsOverlapOrder.j1, if_neg (by simp)]
  obtain ⟨a1, n1⟩ := (prop_iff l1).1 p1
  have b1 := apart_bnd l1 a1 (by omega)
  rw [overlaps_f _ l0 l1 b0 b1 (by omega) (by omega), overlaps_f _ l1 l0 b1 b0 (by omega) (by omega)]
  simp only [Option.bind_some]
  have he : overl (l0.map i23) (l1.map i23) = overl (l1.map i23) (l0.map i23) := by
    rw [Bool.eq_iff_iff, overl_iff _ _ a0 a1, overl_iff _ _ a1 a0, Iv.meets_comm]
  rw [he, if_pos (by simp), ivWorks_f]
  rfl
end Go.Proofs.Ytlgdibeklelfgaa.PAll
