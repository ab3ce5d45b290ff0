/- A use at J and a kill at K ahead of it make the places from K + 1 up to J. -/
import Derived.Test.YtlgdibeklelfgaaPAllx44
import Derived.Test.YtlgdibeklelfgaaHPa
namespace Go.Proofs.Ytlgdibeklelfgaa.PAll
open Go.RowKit Go.Proofs.YtlgdibeklelfgaaW.PrintWords Go.Proofs.YtlgdibeklelfgaaW.PrintLast Go.Proofs.YtlgdibeklelfgaaW.PrintMore
set_option linter.unusedVariables false
set_option linter.unusedSimpArgs false
theorem pure_FnBuildKill (j i : Int) : ∃ k, laws_FnBuildKill.f k j i = some true := by
  refine ⟨10, ?_⟩
  unfold laws_FnBuildKill.f
  by_cases h0 : i < 0
  · rw [if_pos h0, laws_FnBuildKill.j0, if_pos rfl, ivWorks_f]; rfl
  rw [if_neg h0]
  by_cases h1 : i ≥ j
  · rw [if_pos h1, laws_FnBuildKill.j0, if_pos rfl, ivWorks_f]; rfl
  rw [if_neg h1]
  by_cases h2 : j > 1099511627776
  · rw [decide_eq_true h2, laws_FnBuildKill.j0, if_pos rfl, ivWorks_f]; rfl
  rw [decide_eq_false h2, laws_FnBuildKill.j0, if_neg (by simp)]
  have he : evs ([(⟨j, false⟩ : S47), (⟨i, true⟩ : S47)].map ev47) = true := by
    simp [evs, ev47, down]
    omega
  have hb : impl_Build.f [(⟨j, false⟩ : S47), (⟨i, true⟩ : S47)] = some ([(⟨i + 1, j + 1⟩ : S23)], true) := by
    unfold impl_Build.f
    rw [if_pos he]
    rfl
  rw [hb]
  simp only [Option.bind_some]
  rw [if_pos trivial, if_pos (show (([(⟨i + 1, j + 1⟩ : S23)].length : Nat) : Int) = 1 from rfl), if_pos (show (0 : Int) < (([(⟨i + 1, j + 1⟩ : S23)].length : Nat) : Int) by simp), IntWalk.wrap64_in _ (by omega), IntWalk.wrap64_in _ (by omega)]
  simp [rd_T23]
end Go.Proofs.Ytlgdibeklelfgaa.PAll
