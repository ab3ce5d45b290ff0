/- Check finds it if two neighbours have a place in common, or stand the wrong way round. -/
import Derived.Test.YtlgdibeklelfgaaPAllx17
import Derived.Test.YtlgdibeklelfgaaHPa
namespace Go.Proofs.Ytlgdibeklelfgaa.PAll
open Go.RowKit Go.Proofs.YtlgdibeklelfgaaW.PrintWords Go.Proofs.YtlgdibeklelfgaaW.PrintLast Go.Proofs.YtlgdibeklelfgaaW.PrintMore
set_option linter.unusedVariables false
set_option linter.unusedSimpArgs false
theorem good_bad (l : List S23) (s : S23) (h : l ≠ []) (hs : s.f0 < (rd_T23 l ((l.length - 1 : Nat) : Int)).f1) : good ((l ++ [s]).map i23) = false := by
  have hl : 0 < l.length := List.length_pos_iff.2 h
  have e0 : ((l ++ [s]).map i23).getD l.length (0, 0) = i23 s := by simp [List.getD]
  have e1 : ((l ++ [s]).map i23).getD (l.length - 1) (0, 0) = i23 (rd_T23 l ((l.length - 1 : Nat) : Int)) := by
    rw [rd23_get l (l.length - 1) (by omega)]
    rw [List.map_append, List.getD_eq_getElem?_getD, List.getElem?_append_left (by rw [List.length_map]; omega)]
    simp [show l.length - 1 < l.length by omega]
  unfold good
  rw [List.all_eq_false]
  refine ⟨l.length, by simp, ?_⟩
  unfold gd
  rw [e0, e1, decide_eq_false (show ¬ l.length = 0 by omega), decide_eq_false (show ¬ (i23 (rd_T23 l ((l.length - 1 : Nat) : Int))).2 ≤ (i23 s).1 from fun h => by simp only [i23] at h; omega)]
  simp
theorem pure_FnCheckBad (l0 : List S23) (a b : Int) : ∃ k, laws_FnCheckBad.f k l0 a b = some true := by
  refine ⟨l0.length * 4 + 10, ?_⟩
  unfold laws_FnCheckBad.f
  by_cases h0 : (l0.length : Int) > 2147483647
  · rw [if_pos h0]
  rw [if_neg h0, proper_f l0 (by omega) _ (by omega)]
  simp only [Option.bind_some]
  by_cases p0 : propAt l0 0 = true
  rotate_left
  · rw [if_neg p0, laws_FnCheckBad.j0, if_pos rfl, ivWorks_f]; rfl
  rw [if_pos p0]
  by_cases hn : (l0.length : Int) = 0
  · rw [if_pos hn, laws_FnCheckBad.j0, if_pos rfl, ivWorks_f]; rfl
  rw [if_neg hn, some_f]
  simp only [Option.bind_some]
  by_cases hs : sm (a, b) = true
  rotate_left
  · rw [if_neg hs, laws_FnCheckBad.j0, if_pos rfl, ivWorks_f]; rfl
  have hw : wrap64 ((l0.length : Int) - 1) = ((l0.length - 1 : Nat) : Int) := by rw [IntWalk.wrap64_in _ (by omega)]; omega
  rw [if_pos hs, hw, if_pos (by omega), if_pos (by omega)]
  by_cases hc : a ≥ (rd_T23 l0 ((l0.length - 1 : Nat) : Int)).f1
  · rw [decide_eq_true hc, laws_FnCheckBad.j0, if_pos rfl, ivWorks_f]; rfl
  rw [decide_eq_false hc, laws_FnCheckBad.j0, if_neg (by simp)]
  simp only [Option.bind_some, List.nil_append, List.length_nil, List.length_cons, Nat.zero_add]
  rw [if_pos (by omega), if_pos (by omega)]
  have hck : impl_Check.f (l0 ++ [(⟨a, b⟩ : S23)]) = some false := by
    unfold impl_Check.f
    rw [if_pos (by simp; omega), good_bad l0 ⟨a, b⟩ (by intro e; rw [e] at hn; exact hn rfl) (by show a < _; omega)]
  rw [hck]
  simp only [Option.bind_some, ivWorks_f]
  rfl
end Go.Proofs.Ytlgdibeklelfgaa.PAll
