/- A combination of at most a million intervals together is proper. -/
import Derived.Test.YtlgdibeklelfgaaPAllx31
import Derived.Test.YtlgdibeklelfgaaHPure
namespace Go.Proofs.Ytlgdibeklelfgaa.PAll
open Go.RowKit Go.Proofs.YtlgdibeklelfgaaW.PrintWords Go.Proofs.YtlgdibeklelfgaaW.PrintLast Go.Proofs.YtlgdibeklelfgaaW.PrintMore
set_option linter.unusedVariables false
set_option linter.unusedSimpArgs false
theorem pure_FnMergeProper (l0 l1 : List S23) : ∃ k, laws_FnMergeProper.f k l0 l1 = some true := by
  refine ⟨l0.length * 4 + l1.length * 4 + 10, ?_⟩
  unfold laws_FnMergeProper.f
  by_cases h0 : (l0.length : Int) > 2147483647
  · rw [if_pos h0, laws_FnMergeProper.j0, if_pos rfl]
  rw [if_neg h0]
  by_cases h1 : (l1.length : Int) > 2147483647
  · rw [decide_eq_true h1, laws_FnMergeProper.j0, if_pos rfl]
  rw [decide_eq_false h1, laws_FnMergeProper.j0, if_neg (by simp), proper_f l0 (by omega) _ (by omega)]
  simp only [Option.bind_some]
  by_cases p0 : propAt l0 0 = true
  rotate_left
  · rw [if_neg p0, laws_FnMergeProper.j1, if_pos rfl, ivWorks_f]; rfl
  rw [if_pos p0, proper_f l1 (by omega) _ (by omega)]
  simp only [Option.bind_some]
  obtain ⟨a0, n0⟩ := (prop_iff l0).1 p0
  have b0 := apart_bnd l0 a0 (by omega)
  by_cases p1 : propAt l1 0 = true
  rotate_left
  · rw [if_neg p1, laws_FnMergeProper.j1, if_pos rfl, ivWorks_f]; rfl
  rw [if_pos p1, IntWalk.wrap64_in _ (by omega)]
  by_cases hs : (l0.length : Int) + (l1.length : Int) > 1000000
  · rw [decide_eq_true hs, laws_FnMergeProper.j1, if_pos rfl, ivWorks_f]; rfl
  rw [decide_eq_false hs, laws_FnMergeProper.j1, if_neg (by simp)]
  obtain ⟨a1, n1⟩ := (prop_iff l1).1 p1
  have b1 := apart_bnd l1 a1 (by omega)
  have hm : impl_Merge.f l0 l1 = some ((Iv.merge (l0.map i23) (l1.map i23)).map s23) := if_pos ⟨b0, b1⟩
  have hlen := Iv.merge_length (l0.map i23) (l1.map i23)
  simp only [List.length_map] at hlen
  have e : ((Iv.merge (l0.map i23) (l1.map i23)).map s23).map i23 = Iv.merge (l0.map i23) (l1.map i23) := by rw [List.map_map]; exact List.map_id _
  have hp : propAt ((Iv.merge (l0.map i23) (l1.map i23)).map s23) 0 = true := (prop_iff _).2 ⟨by rw [e]; exact Iv.merge_apart _ _ a0 a1, by rw [List.length_map]; omega⟩
  rw [hm]
  simp only [Option.bind_some]
  rw [proper_f _ (by rw [List.length_map]; omega) _ (by rw [List.length_map]; omega), hp]
  simp only [Option.bind_some, if_true, ivWorks_f]
end Go.Proofs.Ytlgdibeklelfgaa.PAll
