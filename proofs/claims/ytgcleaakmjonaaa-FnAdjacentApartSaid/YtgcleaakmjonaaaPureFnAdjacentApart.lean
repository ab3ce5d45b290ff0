/- Intervals with places between -2^61 and 2^61 that are told to be adjacent are not told to overlap: for all intervals. No condition. -/
import Derived.Test.YtgcleaakmjonaaaPFnAdjacentApartx1
import Derived.Test.YtgcleaakmjonaaaAt
set_option linter.unusedVariables false
set_option linter.unusedSimpArgs false
namespace Go.Proofs.Ytgcleaakmjonaaa.Pure
open Go.RowKit Go.Proofs.Ytgcleaakmjonaaa.PFnAdjacentApart Go.Proofs.YtgcleaakmjonaaaW.PrintWords Go.Proofs.YtgcleaakmjonaaaW.PrintLast
namespace CAdjacentApart
theorem some_f (a b : Int) : spec_Some.f a b = some (decide (a < b ∧ a ≥ -2305843009213693952 ∧ b ≤ 2305843009213693952)) := by
  unfold spec_Some.f
  by_cases h1 : a < b
  · by_cases h2 : a ≥ -2305843009213693952
    · rw [if_pos h1, if_pos h2]; congr 1; rw [Bool.eq_iff_iff, decide_eq_true_eq, decide_eq_true_eq]; omega
    · rw [if_pos h1, if_neg h2]; congr 1; symm; rw [decide_eq_false_iff_not]; omega
  · rw [if_neg h1]; congr 1; symm; rw [decide_eq_false_iff_not]; omega
theorem ov_f (a b c d : Int) : impl_Overlap.f a b c d = some (decide (wrap64 (min b d - max a c) > 0)) := by
  unfold impl_Overlap.f intervals_NewInterval.f intervals_Interval_Overlaps.f intervals_imin.f intervals_imax.f
  simp only [Option.bind_some]
  have e1 : (if b < d then some b else some d) = some (min b d) := by split <;> congr 1 <;> omega
  have e2 : (if a > c then some a else some c) = some (max a c) := by split <;> congr 1 <;> omega
  rw [e1, e2]
  rfl
theorem works_f : laws_ivWorks.f = some true := by decide +kernel
theorem adj_f (a b c d : Int) : impl_Adjacent.f a b c d = some (decide (b = c ∨ d = a)) := by
  unfold impl_Adjacent.f intervals_NewInterval.f intervals_Interval_Adjacent.f intervals_Interval_adjacent.f
  simp only [Option.bind_some]
  by_cases h : b = c
  · rw [if_pos h]; simp [h]
  · rw [if_neg h]; simp only [Option.bind_some, h, false_or]; congr 1
theorem pure (a b c d : Int) (h0 : (Lit.int .i64 a).wf = true) (h1 : (Lit.int .i64 b).wf = true) (h2 : (Lit.int .i64 c).wf = true) (h3 : (Lit.int .i64 d).wf = true) : laws_FnAdjacentApart.f 2 a b c d = some true := by
  unfold laws_FnAdjacentApart.f
  rw [some_f, some_f, adj_f]
  simp only [Option.bind_some, laws_FnAdjacentApart.j0, works_f, ov_f]
  by_cases hp : a < b ∧ a ≥ -2305843009213693952 ∧ b ≤ 2305843009213693952
  · by_cases hq : c < d ∧ c ≥ -2305843009213693952 ∧ d ≤ 2305843009213693952
    · by_cases hr : b = c ∨ d = a
      · have e : decide (wrap64 (min b d - max a c) > 0) = false := by rw [decide_eq_false_iff_not]; unfold wrap64; omega
        simp only [hp, hq, hr, e]; simp
      · simp only [hp, hq, hr]; simp
    · simp only [hp, hq]; simp
  · simp only [hp]; simp
theorem walk (a0_0 a0_1 a1_0 a1_1 : Int) (w : World) (w0 : (Lit.int .i64 a0_0).wf = true) (w1 : (Lit.int .i64 a0_1).wf = true) (w2 : (Lit.int .i64 a1_0).wf = true) (w3 : (Lit.int .i64 a1_1).wf = true) :
    Calls Try.prog 5 #[.agg #[.int .i64 a0_0, .int .i64 a0_1], .agg #[.int .i64 a1_0, .int .i64 a1_1]] w fun e w' => e = .returned (.bool true) ∧ Below w.heap.size w w' :=
  laws_FnAdjacentApart.calls 2 a0_0 a0_1 a1_0 a1_1 true w (pure a0_0 a0_1 a1_0 a1_1 w0 w1 w2 w3)
end CAdjacentApart
end Go.Proofs.Ytgcleaakmjonaaa.Pure
