/- A place is in the combination of two sequences exactly if it is in one of both. -/
import Derived.Test.YtlgdibeklelfgaaPAllx30
import Derived.Test.YtlgdibeklelfgaaHPure
namespace Go.Proofs.Ytlgdibeklelfgaa.PAll
open Go.RowKit Go.Proofs.YtlgdibeklelfgaaW.PrintWords Go.Proofs.YtlgdibeklelfgaaW.PrintLast Go.Proofs.YtlgdibeklelfgaaW.PrintMore
set_option linter.unusedVariables false
set_option linter.unusedSimpArgs false
theorem pure_FnMergePlaces (l0 l1 : List S23) (x : Int) : ∃ k, laws_FnMergePlaces.f k l0 l1 x = some true := by
  refine ⟨l0.length * 4 + l1.length * 4 + 10, ?_⟩
  unfold laws_FnMergePlaces.f
  by_cases h0 : (l0.length : Int) > 2147483647
  · rw [if_pos h0, laws_FnMergePlaces.j0, if_pos rfl]
  rw [if_neg h0]
  by_cases h1 : (l1.length : Int) > 2147483647
  · rw [decide_eq_true h1, laws_FnMergePlaces.j0, if_pos rfl]
  rw [decide_eq_false h1, laws_FnMergePlaces.j0, if_neg (by simp), proper_f l0 (by omega) _ (by omega)]
  simp only [Option.bind_some]
  by_cases p0 : propAt l0 0 = true
  rotate_left
  · rw [if_neg p0, laws_FnMergePlaces.j1, if_pos rfl, ivWorks_f]; rfl
  rw [if_pos p0, proper_f l1 (by omega) _ (by omega)]
  simp only [Option.bind_some]
  obtain ⟨a0, n0⟩ := (prop_iff l0).1 p0
  have b0 := apart_bnd l0 a0 (by omega)
  by_cases p1 : propAt l1 0 = true
  rotate_left
  · rw [show propAt l1 0 = false by simpa using p1, Bool.not_false, laws_FnMergePlaces.j1, if_pos rfl, ivWorks_f]; rfl
  rw [p1, Bool.not_true, laws_FnMergePlaces.j1, if_neg (by simp)]
  obtain ⟨a1, n1⟩ := (prop_iff l1).1 p1
  have b1 := apart_bnd l1 a1 (by omega)
  have hm : impl_Merge.f l0 l1 = some ((Iv.merge (l0.map i23) (l1.map i23)).map s23) := if_pos ⟨b0, b1⟩
  have hlen := Iv.merge_length (l0.map i23) (l1.map i23)
  simp only [List.length_map] at hlen
  have e : ((Iv.merge (l0.map i23) (l1.map i23)).map s23).map i23 = Iv.merge (l0.map i23) (l1.map i23) := by rw [List.map_map]; exact List.map_id _
  have lt : ∀ (l : List S23), Iv.Apart (l.map i23) → ∀ s ∈ l.map i23, s.1 < s.2 := fun l h s hs => (h.all s hs).1
  have hx := Iv.merge_has (l0.map i23) (l1.map i23) (lt l0 a0) (lt l1 a1) x
  rw [hm]
  simp only [Option.bind_some]
  rw [sethas_f _ x (by rw [List.length_map]; omega) _ (by rw [List.length_map]; omega), sethas_f l0 x (by omega) _ (by omega), sethas_f l1 x (by omega) _ (by omega), e, hx]
  simp only [Option.bind_some, ivWorks_f]
  cases Iv.shas (l0.map i23) x <;> cases Iv.shas (l1.map i23) x <;> rfl
end Go.Proofs.Ytlgdibeklelfgaa.PAll
