/- A combination overlaps a third sequence exactly if one of both does. -/
import Derived.Test.YtlgdibeklelfgaaPAllx34
import Derived.Test.YtlgdibeklelfgaaHPure
namespace Go.Proofs.Ytlgdibeklelfgaa.PAll
open Go.RowKit Go.Proofs.YtlgdibeklelfgaaW.PrintWords Go.Proofs.YtlgdibeklelfgaaW.PrintLast Go.Proofs.YtlgdibeklelfgaaW.PrintMore
set_option linter.unusedVariables false
set_option linter.unusedSimpArgs false
theorem pure_FnMergeOverlap (l0 l1 l2 : List S23) : ∃ k, laws_FnMergeOverlap.f k l0 l1 l2 = some true := by
  refine ⟨l0.length * 4 + l1.length * 4 + l2.length * 4 + 10, ?_⟩
  unfold laws_FnMergeOverlap.f
  by_cases h0 : (l0.length : Int) > 2147483647
  · rw [if_pos h0, laws_FnMergeOverlap.j0, if_pos rfl]
  rw [if_neg h0]
  by_cases h1 : (l1.length : Int) > 2147483647
  · rw [if_pos h1, laws_FnMergeOverlap.j0, if_pos rfl]
  rw [if_neg h1]
  by_cases h2 : (l2.length : Int) > 2147483647
  · rw [decide_eq_true h2, laws_FnMergeOverlap.j0, if_pos rfl]
  rw [decide_eq_false h2, laws_FnMergeOverlap.j0, if_neg (by simp), proper_f l0 (by omega) _ (by omega)]
  simp only [Option.bind_some]
  by_cases p0 : propAt l0 0 = true
  rotate_left
  · rw [if_neg p0, laws_FnMergeOverlap.j1, if_pos rfl, ivWorks_f]; rfl
  rw [if_pos p0, proper_f l1 (by omega) _ (by omega)]
  simp only [Option.bind_some]
  by_cases p1 : propAt l1 0 = true
  rotate_left
  · rw [if_neg p1, laws_FnMergeOverlap.j1, if_pos rfl, ivWorks_f]; rfl
  rw [if_pos p1, proper_f l2 (by omega) _ (by omega)]
  simp only [Option.bind_some]
  by_cases p2 : propAt l2 0 = true
  rotate_left
  · rw [show propAt l2 0 = false by simpa using p2, Bool.not_false, laws_FnMergeOverlap.j1, if_pos rfl, ivWorks_f]; rfl
  rw [p2, Bool.not_true, laws_FnMergeOverlap.j1, if_neg (by simp)]
  obtain ⟨a0, n0⟩ := (prop_iff l0).1 p0
  obtain ⟨a1, n1⟩ := (prop_iff l1).1 p1
  obtain ⟨a2, n2⟩ := (prop_iff l2).1 p2
  have b0 := apart_bnd l0 a0 (by omega)
  have b1 := apart_bnd l1 a1 (by omega)
  have b2 := apart_bnd l2 a2 (by omega)
  have hm : impl_Merge.f l0 l1 = some ((Iv.merge (l0.map i23) (l1.map i23)).map s23) := if_pos ⟨b0, b1⟩
  have hlen := Iv.merge_length (l0.map i23) (l1.map i23)
  simp only [List.length_map] at hlen
  have e : ((Iv.merge (l0.map i23) (l1.map i23)).map s23).map i23 = Iv.merge (l0.map i23) (l1.map i23) := by rw [List.map_map]; exact List.map_id _
  have am := Iv.merge_apart _ _ a0 a1
  have bm := apart_bnd ((Iv.merge (l0.map i23) (l1.map i23)).map s23) (by rw [e]; exact am) (by rw [List.length_map]; omega)
  rw [hm]
  simp only [Option.bind_some]
  rw [overlaps_f _ _ l2 bm b2 (by rw [List.length_map]; omega) (by omega), overlaps_f _ l0 l2 b0 b2 (by omega) (by omega), overlaps_f _ l1 l2 b1 b2 (by omega) (by omega), e]
  simp only [Option.bind_some, ivWorks_f]
  have he : overl (Iv.merge (l0.map i23) (l1.map i23)) (l2.map i23) = (overl (l0.map i23) (l2.map i23) || overl (l1.map i23) (l2.map i23)) := by
    rw [Bool.eq_iff_iff, Bool.or_eq_true, overl_iff _ _ am a2, overl_iff _ _ a0 a2, overl_iff _ _ a1 a2, Iv.meets_merge _ _ _ a0 a1 a2]
  rw [he]
  cases overl (l0.map i23) (l2.map i23) <;> cases overl (l1.map i23) (l2.map i23) <;> rfl
end Go.Proofs.Ytlgdibeklelfgaa.PAll
