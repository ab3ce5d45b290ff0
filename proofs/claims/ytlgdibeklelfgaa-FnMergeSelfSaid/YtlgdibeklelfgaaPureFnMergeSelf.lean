/- The combination of a sequence with itself, or with the empty one, is the sequence. -/
import Derived.Test.YtlgdibeklelfgaaPAllx33
import Derived.Test.YtlgdibeklelfgaaHPure
namespace Go.Proofs.Ytlgdibeklelfgaa.PAll
open Go.RowKit Go.Proofs.YtlgdibeklelfgaaW.PrintWords Go.Proofs.YtlgdibeklelfgaaW.PrintLast Go.Proofs.YtlgdibeklelfgaaW.PrintMore
set_option linter.unusedVariables false
set_option linter.unusedSimpArgs false
theorem pure_FnMergeSelf (l0 : List S23) : ∃ k, laws_FnMergeSelf.f k l0 = some true := by
  refine ⟨l0.length * 4 + 10, ?_⟩
  unfold laws_FnMergeSelf.f
  by_cases h0 : (l0.length : Int) > 2147483647
  · rw [if_pos h0]
  rw [if_neg h0, proper_f l0 (by omega) _ (by omega)]
  simp only [Option.bind_some]
  by_cases p0 : propAt l0 0 = true
  rotate_left
  · rw [if_neg p0, ivWorks_f]; rfl
  rw [if_pos p0]
  obtain ⟨a0, n0⟩ := (prop_iff l0).1 p0
  have b0 := apart_bnd l0 a0 (by omega)
  have bn : bnd (([] : List S23).map i23) = true := rfl
  have back : (l0.map i23).map s23 = l0 := by rw [List.map_map]; exact List.map_id _
  have m1 : impl_Merge.f l0 l0 = some l0 := (if_pos ⟨b0, b0⟩).trans (by rw [Iv.merge_self _ a0, back])
  have m2 : impl_Merge.f l0 [] = some l0 := (if_pos ⟨b0, bn⟩).trans (by
    have : Iv.merge (l0.map i23) (([] : List S23).map i23) = l0.map i23 := by cases l0 <;> rfl
    rw [this, back])
  have m3 : impl_Merge.f [] l0 = some l0 := (if_pos ⟨bn, b0⟩).trans (by
    have : Iv.merge (([] : List S23).map i23) (l0.map i23) = l0.map i23 := by cases l0 <;> rfl
    rw [this, back])
  rw [m1, m2, m3]
  simp only [Option.bind_some]
  rw [same_f l0 (by omega) _ (by omega)]
  simp only [Option.bind_some, if_true, ivWorks_f]
end Go.Proofs.Ytlgdibeklelfgaa.PAll
